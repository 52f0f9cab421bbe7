/- The machine side of laws.FnConfigAdd: each function of this text answers what its Lean function answers (written for this claim by a program of this session over the kit's print; no condition beyond what each theorem says). -/
import Derived.Test.YtbomcdnijklgjaaGreatDoorOFnConfigAddx0
import Derived.Test.YtbomcdnijklgjaaGreatDoorOFnConfigAddx1
import Derived.Test.YtbomcdnijklgjaaGreatDoorOFnConfigAddx2
import Derived.Test.YtbomcdnijklgjaaGreatDoorOFnConfigAddx4
import Derived.Test.YtbomcdnijklgjaaGreatDoorOFnConfigAddx6
import Derived.Test.YtbomcdnijklgjaaGreatDoorOFnConfigAddx7
import Derived.Test.YtbomcdnijklgjaaGreatDoorOFnConfigAddx8
namespace Go.Proofs.YtbomcdnijklgjaaGreatDoor.PFnConfigAdd
open Go.RowKit Go.Proofs.YtbomcdnijklgjaaGreatDoorW.PrintWords Go.Proofs.YtbomcdnijklgjaaGreatDoorW.PrintLast Go.Proofs.YtbomcdnijklgjaaGreatDoorW.PrintMore
attribute [local go_sem] max2_int min2_int max_two min_two max_three min_three max_four min_four   -- for this text's walks alone
set_option linter.unusedVariables false
set_option linter.unusedSimpArgs false

/-! ### laws_FnConfigAdd: function 4 -/
mutual
def laws_FnConfigAdd.j0 : Nat → List (S50) → ByteArray → ByteArray → ByteArray → ByteArray → ByteArray → Bool → Option (Bool)
  | 0, _, _, _, _, _, _, _ => none
  | k + 1, x0, x1, x2, x3, x4, x5, x43 => if x43 = true then (some true) else ((laws_conf.f k x0).bind fun t179 => (if t179 = true then ((laws_key.f k x1 x2).bind fun t180 => (if t180 = true then ((laws_key.f k x4 x5).bind fun t181 => (if t181 = true then ((spec_Valued.f k x3).bind fun t182 => (if t182 = true then (if x1.toList = ([] : List UInt8) then (laws_FnConfigAdd.j1 k x0 x1 x2 x3 x4 x5 true) else ((spec_ConfValue.f k x0 x1 x2).bind fun t183 => (laws_FnConfigAdd.j1 k x0 x1 x2 x3 x4 x5 (t183.toList != ([] : List UInt8))))) else (laws_FnConfigAdd.j1 k x0 x1 x2 x3 x4 x5 true))) else (laws_FnConfigAdd.j1 k x0 x1 x2 x3 x4 x5 true))) else (laws_FnConfigAdd.j1 k x0 x1 x2 x3 x4 x5 true))) else (laws_FnConfigAdd.j1 k x0 x1 x2 x3 x4 x5 true)))
def laws_FnConfigAdd.j1 : Nat → List (S50) → ByteArray → ByteArray → ByteArray → ByteArray → ByteArray → Bool → Option (Bool)
  | 0, _, _, _, _, _, _, _ => none
  | k + 1, x0, x1, x2, x3, x4, x5, x74 => if x74 = true then ((laws_awakeConf.f).bind fun t184 => (some t184)) else ((spec_ConfValue.f k x0 x4 x5).bind fun t185 => (if x4.toList = x1.toList then (laws_FnConfigAdd.j2 k x0 x1 x2 x3 x4 x5 t185 (x5.toList == x2.toList)) else (laws_FnConfigAdd.j2 k x0 x1 x2 x3 x4 x5 t185 false)))
def laws_FnConfigAdd.j2 : Nat → List (S50) → ByteArray → ByteArray → ByteArray → ByteArray → ByteArray → ByteArray → Bool → Option (Bool)
  | 0, _, _, _, _, _, _, _, _ => none
  | k + 1, x0, x1, x2, x3, x4, x5, x13, x87 => if x87 = true then (laws_FnConfigAdd.j3 k x0 x1 x2 x3 x4 x5 x3) else (laws_FnConfigAdd.j3 k x0 x1 x2 x3 x4 x5 x13)
def laws_FnConfigAdd.j3 : Nat → List (S50) → ByteArray → ByteArray → ByteArray → ByteArray → ByteArray → ByteArray → Option (Bool)
  | 0, _, _, _, _, _, _, _ => none
  | k + 1, x0, x1, x2, x3, x4, x5, x13 => (spec_ConfText.f k x0).bind fun t186 => ((spec_ConfKey.f x4 x5).bind fun t187 => ((impl_ConfigAdd.f t186 x1 x2 x3 t187).bind fun bt188 => (if bt188.2 = 0 then (if bt188.1.toList = x13.toList then ((laws_awakeConf.f).bind fun t190 => (some t190)) else (some false)) else (some false))))
end
def laws_FnConfigAdd.f (k : Nat) (l0 : List (S50)) (a1 : ByteArray) (a2 : ByteArray) (a3 : ByteArray) (a4 : ByteArray) (a5 : ByteArray) : Option (Bool) := (laws_zzFits15.f k l0).bind fun t178 => (if t178 = true then (if (a1.size : Int) > 2147483647 then (laws_FnConfigAdd.j0 k l0 a1 a2 a3 a4 a5 true) else (if (a2.size : Int) > 2147483647 then (laws_FnConfigAdd.j0 k l0 a1 a2 a3 a4 a5 true) else (if (a3.size : Int) > 2147483647 then (laws_FnConfigAdd.j0 k l0 a1 a2 a3 a4 a5 true) else (if (a4.size : Int) > 2147483647 then (laws_FnConfigAdd.j0 k l0 a1 a2 a3 a4 a5 true) else (laws_FnConfigAdd.j0 k l0 a1 a2 a3 a4 a5 (decide ((a5.size : Int) > 2147483647))))))) else (laws_FnConfigAdd.j0 k l0 a1 a2 a3 a4 a5 true))
theorem laws_FnConfigAdd.mono_l : ∀ k, (∀ y0 y1 y2 y3 y4 y5 y6, LeO (laws_FnConfigAdd.j0 k y0 y1 y2 y3 y4 y5 y6) (laws_FnConfigAdd.j0 (k + 1) y0 y1 y2 y3 y4 y5 y6)) ∧ (∀ y0 y1 y2 y3 y4 y5 y6, LeO (laws_FnConfigAdd.j1 k y0 y1 y2 y3 y4 y5 y6) (laws_FnConfigAdd.j1 (k + 1) y0 y1 y2 y3 y4 y5 y6)) ∧ (∀ y0 y1 y2 y3 y4 y5 y6 y7, LeO (laws_FnConfigAdd.j2 k y0 y1 y2 y3 y4 y5 y6 y7) (laws_FnConfigAdd.j2 (k + 1) y0 y1 y2 y3 y4 y5 y6 y7)) ∧ (∀ y0 y1 y2 y3 y4 y5 y6, LeO (laws_FnConfigAdd.j3 k y0 y1 y2 y3 y4 y5 y6) (laws_FnConfigAdd.j3 (k + 1) y0 y1 y2 y3 y4 y5 y6))
  | 0 => ⟨fun _ _ _ _ _ _ _ r h => by simp [laws_FnConfigAdd.j0] at h, fun _ _ _ _ _ _ _ r h => by simp [laws_FnConfigAdd.j1] at h, fun _ _ _ _ _ _ _ _ r h => by simp [laws_FnConfigAdd.j2] at h, fun _ _ _ _ _ _ _ r h => by simp [laws_FnConfigAdd.j3] at h⟩
  | k + 1 => by
    obtain ⟨ih0, ih1, ih2, ih3⟩ := laws_FnConfigAdd.mono_l k
    refine ⟨?_, ?_, ?_, ?_⟩
    · intro y0 y1 y2 y3 y4 y5 y6
      unfold laws_FnConfigAdd.j0
      repeat' first
      | (with_reducible exact ih0 _ _ _ _ _ _ _)
      | (with_reducible exact ih1 _ _ _ _ _ _ _)
      | (with_reducible exact ih2 _ _ _ _ _ _ _ _)
      | (with_reducible exact ih3 _ _ _ _ _ _ _)
      | (with_reducible exact laws_conf.mono _ _)
      | (with_reducible exact laws_key.mono _ _ _)
      | (with_reducible exact laws_zzFits15.mono _ _)
      | (with_reducible exact spec_ConfText.mono _ _)
      | (with_reducible exact spec_ConfValue.mono _ _ _ _)
      | (with_reducible exact spec_Valued.mono _ _)
      | (with_reducible exact LeO.refl _)
      | (with_reducible exact LeO.none _)
      | (with_reducible refine LeO.ite ?_ ?_)
      | (with_reducible refine LeO.bind ?_ (fun _ => ?_))
      | exact ih0 _ _ _ _ _ _ _
      | exact ih1 _ _ _ _ _ _ _
      | exact ih2 _ _ _ _ _ _ _ _
      | exact ih3 _ _ _ _ _ _ _
      | exact laws_conf.mono _ _
      | exact laws_key.mono _ _ _
      | exact laws_zzFits15.mono _ _
      | exact spec_ConfText.mono _ _
      | exact spec_ConfValue.mono _ _ _ _
      | exact spec_Valued.mono _ _
      | exact LeO.none _
      | refine LeO.ite ?_ ?_
      | refine LeO.bind ?_ (fun _ => ?_)
    · intro y0 y1 y2 y3 y4 y5 y6
      unfold laws_FnConfigAdd.j1
      repeat' first
      | (with_reducible exact ih0 _ _ _ _ _ _ _)
      | (with_reducible exact ih1 _ _ _ _ _ _ _)
      | (with_reducible exact ih2 _ _ _ _ _ _ _ _)
      | (with_reducible exact ih3 _ _ _ _ _ _ _)
      | (with_reducible exact laws_conf.mono _ _)
      | (with_reducible exact laws_key.mono _ _ _)
      | (with_reducible exact laws_zzFits15.mono _ _)
      | (with_reducible exact spec_ConfText.mono _ _)
      | (with_reducible exact spec_ConfValue.mono _ _ _ _)
      | (with_reducible exact spec_Valued.mono _ _)
      | (with_reducible exact LeO.refl _)
      | (with_reducible exact LeO.none _)
      | (with_reducible refine LeO.ite ?_ ?_)
      | (with_reducible refine LeO.bind ?_ (fun _ => ?_))
      | exact ih0 _ _ _ _ _ _ _
      | exact ih1 _ _ _ _ _ _ _
      | exact ih2 _ _ _ _ _ _ _ _
      | exact ih3 _ _ _ _ _ _ _
      | exact laws_conf.mono _ _
      | exact laws_key.mono _ _ _
      | exact laws_zzFits15.mono _ _
      | exact spec_ConfText.mono _ _
      | exact spec_ConfValue.mono _ _ _ _
      | exact spec_Valued.mono _ _
      | exact LeO.none _
      | refine LeO.ite ?_ ?_
      | refine LeO.bind ?_ (fun _ => ?_)
    · intro y0 y1 y2 y3 y4 y5 y6 y7
      unfold laws_FnConfigAdd.j2
      repeat' first
      | (with_reducible exact ih0 _ _ _ _ _ _ _)
      | (with_reducible exact ih1 _ _ _ _ _ _ _)
      | (with_reducible exact ih2 _ _ _ _ _ _ _ _)
      | (with_reducible exact ih3 _ _ _ _ _ _ _)
      | (with_reducible exact laws_conf.mono _ _)
      | (with_reducible exact laws_key.mono _ _ _)
      | (with_reducible exact laws_zzFits15.mono _ _)
      | (with_reducible exact spec_ConfText.mono _ _)
      | (with_reducible exact spec_ConfValue.mono _ _ _ _)
      | (with_reducible exact spec_Valued.mono _ _)
      | (with_reducible exact LeO.refl _)
      | (with_reducible exact LeO.none _)
      | (with_reducible refine LeO.ite ?_ ?_)
      | (with_reducible refine LeO.bind ?_ (fun _ => ?_))
      | exact ih0 _ _ _ _ _ _ _
      | exact ih1 _ _ _ _ _ _ _
      | exact ih2 _ _ _ _ _ _ _ _
      | exact ih3 _ _ _ _ _ _ _
      | exact laws_conf.mono _ _
      | exact laws_key.mono _ _ _
      | exact laws_zzFits15.mono _ _
      | exact spec_ConfText.mono _ _
      | exact spec_ConfValue.mono _ _ _ _
      | exact spec_Valued.mono _ _
      | exact LeO.none _
      | refine LeO.ite ?_ ?_
      | refine LeO.bind ?_ (fun _ => ?_)
    · intro y0 y1 y2 y3 y4 y5 y6
      unfold laws_FnConfigAdd.j3
      repeat' first
      | (with_reducible exact ih0 _ _ _ _ _ _ _)
      | (with_reducible exact ih1 _ _ _ _ _ _ _)
      | (with_reducible exact ih2 _ _ _ _ _ _ _ _)
      | (with_reducible exact ih3 _ _ _ _ _ _ _)
      | (with_reducible exact laws_conf.mono _ _)
      | (with_reducible exact laws_key.mono _ _ _)
      | (with_reducible exact laws_zzFits15.mono _ _)
      | (with_reducible exact spec_ConfText.mono _ _)
      | (with_reducible exact spec_ConfValue.mono _ _ _ _)
      | (with_reducible exact spec_Valued.mono _ _)
      | (with_reducible exact LeO.refl _)
      | (with_reducible exact LeO.none _)
      | (with_reducible refine LeO.ite ?_ ?_)
      | (with_reducible refine LeO.bind ?_ (fun _ => ?_))
      | exact ih0 _ _ _ _ _ _ _
      | exact ih1 _ _ _ _ _ _ _
      | exact ih2 _ _ _ _ _ _ _ _
      | exact ih3 _ _ _ _ _ _ _
      | exact laws_conf.mono _ _
      | exact laws_key.mono _ _ _
      | exact laws_zzFits15.mono _ _
      | exact spec_ConfText.mono _ _
      | exact spec_ConfValue.mono _ _ _ _
      | exact spec_Valued.mono _ _
      | exact LeO.none _
      | refine LeO.ite ?_ ?_
      | refine LeO.bind ?_ (fun _ => ?_)
theorem laws_FnConfigAdd.mono : ∀ a0 a1 a2 a3 a4 a5 k, LeO (laws_FnConfigAdd.f k a0 a1 a2 a3 a4 a5) (laws_FnConfigAdd.f (k + 1) a0 a1 a2 a3 a4 a5) := by
  intro a0 a1 a2 a3 a4 a5 k
  obtain ⟨ih0, ih1, ih2, ih3⟩ := laws_FnConfigAdd.mono_l k
  unfold laws_FnConfigAdd.f
  repeat' first
      | (with_reducible exact ih0 _ _ _ _ _ _ _)
      | (with_reducible exact ih1 _ _ _ _ _ _ _)
      | (with_reducible exact ih2 _ _ _ _ _ _ _ _)
      | (with_reducible exact ih3 _ _ _ _ _ _ _)
      | (with_reducible exact laws_conf.mono _ _)
      | (with_reducible exact laws_key.mono _ _ _)
      | (with_reducible exact laws_zzFits15.mono _ _)
      | (with_reducible exact spec_ConfText.mono _ _)
      | (with_reducible exact spec_ConfValue.mono _ _ _ _)
      | (with_reducible exact spec_Valued.mono _ _)
      | (with_reducible exact LeO.refl _)
      | (with_reducible exact LeO.none _)
      | (with_reducible refine LeO.ite ?_ ?_)
      | (with_reducible refine LeO.bind ?_ (fun _ => ?_))
      | exact ih0 _ _ _ _ _ _ _
      | exact ih1 _ _ _ _ _ _ _
      | exact ih2 _ _ _ _ _ _ _ _
      | exact ih3 _ _ _ _ _ _ _
      | exact laws_conf.mono _ _
      | exact laws_key.mono _ _ _
      | exact laws_zzFits15.mono _ _
      | exact spec_ConfText.mono _ _
      | exact spec_ConfValue.mono _ _ _ _
      | exact spec_Valued.mono _ _
      | exact LeO.none _
      | refine LeO.ite ?_ ?_
      | refine LeO.bind ?_ (fun _ => ?_)
set_option maxHeartbeats 8000000 in
set_option maxRecDepth 100000 in
theorem laws_FnConfigAdd.calls (k : Nat) (A0 : Option Addr) (c0 : Nat) (l0 : List (S50)) (a1 : ByteArray) (a2 : ByteArray) (a3 : ByteArray) (a4 : ByteArray) (a5 : ByteArray) (r : Bool) (w : World) (hprem : Prem w) (hr0 : Kd.C k50 w A0 l0.length l0) (hc0 : l0.length ≤ c0) (h : laws_FnConfigAdd.f k l0 a1 a2 a3 a4 a5 = some r) :
    Calls Tryz.prog 4 #[.slice A0 l0.length c0, .string a1, .string a2, .string a3, .string a4, .string a5] w fun e w' => e = .returned (.bool r) ∧ Below w.heap.size w w' := by
  have HPM := Aside0.mk hprem
  clear hprem
  have HR0 := Aside0.mk hr0
  have HC0 := Aside0.mk hc0
  clear hr0 hc0
  have HB := Aside0.mk (Below.refl w.heap.size w)
  have H : ((laws_zzFits15.f k l0).bind fun t178 => (if t178 = true then (if (a1.size : Int) > 2147483647 then (laws_FnConfigAdd.j0 k l0 a1 a2 a3 a4 a5 true) else (if (a2.size : Int) > 2147483647 then (laws_FnConfigAdd.j0 k l0 a1 a2 a3 a4 a5 true) else (if (a3.size : Int) > 2147483647 then (laws_FnConfigAdd.j0 k l0 a1 a2 a3 a4 a5 true) else (if (a4.size : Int) > 2147483647 then (laws_FnConfigAdd.j0 k l0 a1 a2 a3 a4 a5 true) else (laws_FnConfigAdd.j0 k l0 a1 a2 a3 a4 a5 (decide ((a5.size : Int) > 2147483647))))))) else (laws_FnConfigAdd.j0 k l0 a1 a2 a3 a4 a5 true))) = some r := h
  clear h
  have HC7 := Aside0.mk H
  clear H
  go_enter Tryz.func4, Tryz.ntmps4
  go_upto_region 1 with (fail)
  go_cut [43] (fun v43 wc => ∃ (kq : Nat) (x43_6 : Bool), v43 = .bool x43_6 ∧ Aside0 (laws_FnConfigAdd.j0 kq l0 a1 a2 a3 a4 a5 x43_6 = some r) ∧ Aside0 (kq ≤ k) ∧ Aside0 (Below w.heap.size w wc))
  case first =>
    have H := HC7.out
    clear HC7
    replace H := Option.bind_eq_some_iff.mp H
    obtain ⟨t178, A80, H⟩ := H
    replace H : (if t178 = true then (if (a1.size : Int) > 2147483647 then (laws_FnConfigAdd.j0 k l0 a1 a2 a3 a4 a5 true) else (if (a2.size : Int) > 2147483647 then (laws_FnConfigAdd.j0 k l0 a1 a2 a3 a4 a5 true) else (if (a3.size : Int) > 2147483647 then (laws_FnConfigAdd.j0 k l0 a1 a2 a3 a4 a5 true) else (if (a4.size : Int) > 2147483647 then (laws_FnConfigAdd.j0 k l0 a1 a2 a3 a4 a5 true) else (laws_FnConfigAdd.j0 k l0 a1 a2 a3 a4 a5 (decide ((a5.size : Int) > 2147483647))))))) else (laws_FnConfigAdd.j0 k l0 a1 a2 a3 a4 a5 true)) = some r := H
    have A8 := Aside0.mk A80
    clear A80
    by_cases c9 : t178 = true
    · subst c9
      have H1 : (if (a1.size : Int) > 2147483647 then (laws_FnConfigAdd.j0 k l0 a1 a2 a3 a4 a5 true) else (if (a2.size : Int) > 2147483647 then (laws_FnConfigAdd.j0 k l0 a1 a2 a3 a4 a5 true) else (if (a3.size : Int) > 2147483647 then (laws_FnConfigAdd.j0 k l0 a1 a2 a3 a4 a5 true) else (if (a4.size : Int) > 2147483647 then (laws_FnConfigAdd.j0 k l0 a1 a2 a3 a4 a5 true) else (laws_FnConfigAdd.j0 k l0 a1 a2 a3 a4 a5 (decide ((a5.size : Int) > 2147483647))))))) = some r := by rw [if_pos rfl] at H; exact H
      clear H
      have H := H1
      clear H1
      by_cases c10 : (a1.size : Int) > 2147483647
      · rw [if_pos c10] at H
        have c10b0 : decide (2147483647 < (a1.size : Int)) = true := decide_eq_true c10
        have c10b1 : decide (2147483647 < a1.size) = true := decide_eq_true (by omega)
        clear c10
        (first | rw [c10b0] | (simp only [i64_w, i32_w]; rw [c10b0]) | skip)
        have H' := Aside0.mk H
        clear H
        go_wp2_with (first | ((with_reducible refine gate_callee (f := 6) rfl ?_); refine goesL_ (some 17) rfl rfl Tryz.func6 (by kernel_rfl) rfl #[.slice A0 l0.length c0] rfl (by (try simp only [List.map_toArray, List.map_cons, List.map_nil]); first | done | rfl | (simp only [List.length_drop, List.length_take]; rfl)) ?_; (with_reducible refine (laws_zzFits15.calls k _ _ l0 true _ ?side1 ?side2 A8.out).mono ?_); (case side1 => repeat (first | exact (Kd.C_below HR0.out HB.out) | (with_reducible refine Kd.C_alloc ?_ _) | (with_reducible refine Kd.C_drewN ?_ _) | (with_reducible refine Kd.C_drew ?_))); (case side2 => exact HC0.out); rintro e w11 ⟨rfl, hb⟩; refine ⟨_, rfl, ?_⟩; have n0_ := Aside0.mk (below_step (by repeat (first | (with_reducible first | exact HB.out | apply below_alloc | apply pw_below_drewN | apply below_drew1) | exact HB.out)) hb); clear HB; have HB := n0_; clear n0_; (try clear hb); (try clear hb2); (try clear hk); (try clear hi)))
        go_meet
        case rel => exact ⟨_, (true), (by first | rfl | (simp; done) | (simp [*]; done)), H', ⟨by first | omega | exact Nat.le_refl _⟩, ⟨by repeat (first | (with_reducible first | exact HB.out | apply below_alloc | apply pw_below_drewN | apply below_drew1) | exact HB.out)⟩⟩
      · rw [if_neg c10] at H
        have c10b0 : decide (2147483647 < (a1.size : Int)) = false := decide_eq_false c10
        have c10b1 : decide (2147483647 < a1.size) = false := decide_eq_false (by omega)
        clear c10
        (first | rw [c10b0] | (simp only [i64_w, i32_w]; rw [c10b0]) | skip)
        by_cases c12 : (a2.size : Int) > 2147483647
        · rw [if_pos c12] at H
          have c12b0 : decide (2147483647 < (a2.size : Int)) = true := decide_eq_true c12
          have c12b1 : decide (2147483647 < a2.size) = true := decide_eq_true (by omega)
          clear c12
          have H' := Aside0.mk H
          clear H
          go_wp2_with (first | ((with_reducible refine gate_callee (f := 6) rfl ?_); refine goesL_ (some 17) rfl rfl Tryz.func6 (by kernel_rfl) rfl #[.slice A0 l0.length c0] rfl (by (try simp only [List.map_toArray, List.map_cons, List.map_nil]); first | done | rfl | (simp only [List.length_drop, List.length_take]; rfl)) ?_; (with_reducible refine (laws_zzFits15.calls k _ _ l0 true _ ?side1 ?side2 A8.out).mono ?_); (case side1 => repeat (first | exact (Kd.C_below HR0.out HB.out) | (with_reducible refine Kd.C_alloc ?_ _) | (with_reducible refine Kd.C_drewN ?_ _) | (with_reducible refine Kd.C_drew ?_))); (case side2 => exact HC0.out); rintro e w13 ⟨rfl, hb⟩; refine ⟨_, rfl, ?_⟩; have n0_ := Aside0.mk (below_step (by repeat (first | (with_reducible first | exact HB.out | apply below_alloc | apply pw_below_drewN | apply below_drew1) | exact HB.out)) hb); clear HB; have HB := n0_; clear n0_; (try clear hb); (try clear hb2); (try clear hk); (try clear hi)))
          go_meet
          case rel => exact ⟨_, (true), (by first | rfl | (simp; done) | (simp [*]; done)), H', ⟨by first | omega | exact Nat.le_refl _⟩, ⟨by repeat (first | (with_reducible first | exact HB.out | apply below_alloc | apply pw_below_drewN | apply below_drew1) | exact HB.out)⟩⟩
        · rw [if_neg c12] at H
          have c12b0 : decide (2147483647 < (a2.size : Int)) = false := decide_eq_false c12
          have c12b1 : decide (2147483647 < a2.size) = false := decide_eq_false (by omega)
          clear c12
          by_cases c14 : (a3.size : Int) > 2147483647
          · rw [if_pos c14] at H
            have c14b0 : decide (2147483647 < (a3.size : Int)) = true := decide_eq_true c14
            have c14b1 : decide (2147483647 < a3.size) = true := decide_eq_true (by omega)
            clear c14
            have H' := Aside0.mk H
            clear H
            go_wp2_with (first | ((with_reducible refine gate_callee (f := 6) rfl ?_); refine goesL_ (some 17) rfl rfl Tryz.func6 (by kernel_rfl) rfl #[.slice A0 l0.length c0] rfl (by (try simp only [List.map_toArray, List.map_cons, List.map_nil]); first | done | rfl | (simp only [List.length_drop, List.length_take]; rfl)) ?_; (with_reducible refine (laws_zzFits15.calls k _ _ l0 true _ ?side1 ?side2 A8.out).mono ?_); (case side1 => repeat (first | exact (Kd.C_below HR0.out HB.out) | (with_reducible refine Kd.C_alloc ?_ _) | (with_reducible refine Kd.C_drewN ?_ _) | (with_reducible refine Kd.C_drew ?_))); (case side2 => exact HC0.out); rintro e w15 ⟨rfl, hb⟩; refine ⟨_, rfl, ?_⟩; have n0_ := Aside0.mk (below_step (by repeat (first | (with_reducible first | exact HB.out | apply below_alloc | apply pw_below_drewN | apply below_drew1) | exact HB.out)) hb); clear HB; have HB := n0_; clear n0_; (try clear hb); (try clear hb2); (try clear hk); (try clear hi)))
            go_meet
            case rel => exact ⟨_, (true), (by first | rfl | (simp; done) | (simp [*]; done)), H', ⟨by first | omega | exact Nat.le_refl _⟩, ⟨by repeat (first | (with_reducible first | exact HB.out | apply below_alloc | apply pw_below_drewN | apply below_drew1) | exact HB.out)⟩⟩
          · rw [if_neg c14] at H
            have c14b0 : decide (2147483647 < (a3.size : Int)) = false := decide_eq_false c14
            have c14b1 : decide (2147483647 < a3.size) = false := decide_eq_false (by omega)
            clear c14
            by_cases c16 : (a4.size : Int) > 2147483647
            · rw [if_pos c16] at H
              have c16b0 : decide (2147483647 < (a4.size : Int)) = true := decide_eq_true c16
              have c16b1 : decide (2147483647 < a4.size) = true := decide_eq_true (by omega)
              clear c16
              have H' := Aside0.mk H
              clear H
              go_wp2_with (first | ((with_reducible refine gate_callee (f := 6) rfl ?_); refine goesL_ (some 17) rfl rfl Tryz.func6 (by kernel_rfl) rfl #[.slice A0 l0.length c0] rfl (by (try simp only [List.map_toArray, List.map_cons, List.map_nil]); first | done | rfl | (simp only [List.length_drop, List.length_take]; rfl)) ?_; (with_reducible refine (laws_zzFits15.calls k _ _ l0 true _ ?side1 ?side2 A8.out).mono ?_); (case side1 => repeat (first | exact (Kd.C_below HR0.out HB.out) | (with_reducible refine Kd.C_alloc ?_ _) | (with_reducible refine Kd.C_drewN ?_ _) | (with_reducible refine Kd.C_drew ?_))); (case side2 => exact HC0.out); rintro e w17 ⟨rfl, hb⟩; refine ⟨_, rfl, ?_⟩; have n0_ := Aside0.mk (below_step (by repeat (first | (with_reducible first | exact HB.out | apply below_alloc | apply pw_below_drewN | apply below_drew1) | exact HB.out)) hb); clear HB; have HB := n0_; clear n0_; (try clear hb); (try clear hb2); (try clear hk); (try clear hi)))
              go_meet
              case rel => exact ⟨_, (true), (by first | rfl | (simp; done) | (simp [*]; done)), H', ⟨by first | omega | exact Nat.le_refl _⟩, ⟨by repeat (first | (with_reducible first | exact HB.out | apply below_alloc | apply pw_below_drewN | apply below_drew1) | exact HB.out)⟩⟩
            · rw [if_neg c16] at H
              have c16b0 : decide (2147483647 < (a4.size : Int)) = false := decide_eq_false c16
              have c16b1 : decide (2147483647 < a4.size) = false := decide_eq_false (by omega)
              clear c16
              have H' := Aside0.mk H
              clear H
              go_wp2_with (first | ((with_reducible refine gate_callee (f := 6) rfl ?_); refine goesL_ (some 17) rfl rfl Tryz.func6 (by kernel_rfl) rfl #[.slice A0 l0.length c0] rfl (by (try simp only [List.map_toArray, List.map_cons, List.map_nil]); first | done | rfl | (simp only [List.length_drop, List.length_take]; rfl)) ?_; (with_reducible refine (laws_zzFits15.calls k _ _ l0 true _ ?side1 ?side2 A8.out).mono ?_); (case side1 => repeat (first | exact (Kd.C_below HR0.out HB.out) | (with_reducible refine Kd.C_alloc ?_ _) | (with_reducible refine Kd.C_drewN ?_ _) | (with_reducible refine Kd.C_drew ?_))); (case side2 => exact HC0.out); rintro e w18 ⟨rfl, hb⟩; refine ⟨_, rfl, ?_⟩; have n0_ := Aside0.mk (below_step (by repeat (first | (with_reducible first | exact HB.out | apply below_alloc | apply pw_below_drewN | apply below_drew1) | exact HB.out)) hb); clear HB; have HB := n0_; clear n0_; (try clear hb); (try clear hb2); (try clear hk); (try clear hi)))
              go_meet
              case rel => exact ⟨_, (decide ((a5.size : Int) > 2147483647)), (by first | rfl | (simp; done) | (simp [*]; done)), H', ⟨by first | omega | exact Nat.le_refl _⟩, ⟨by repeat (first | (with_reducible first | exact HB.out | apply below_alloc | apply pw_below_drewN | apply below_drew1) | exact HB.out)⟩⟩
    · replace c9 := Bool.eq_false_iff.mpr c9
      subst c9
      have H1 : (laws_FnConfigAdd.j0 k l0 a1 a2 a3 a4 a5 true) = some r := by rw [if_neg (show ¬ (false = true) by decide)] at H; exact H
      clear H
      have H := H1
      clear H1
      have H' := Aside0.mk H
      clear H
      go_wp2_with (first | ((with_reducible refine gate_callee (f := 6) rfl ?_); refine goesL_ (some 17) rfl rfl Tryz.func6 (by kernel_rfl) rfl #[.slice A0 l0.length c0] rfl (by (try simp only [List.map_toArray, List.map_cons, List.map_nil]); first | done | rfl | (simp only [List.length_drop, List.length_take]; rfl)) ?_; (with_reducible refine (laws_zzFits15.calls k _ _ l0 false _ ?side1 ?side2 A8.out).mono ?_); (case side1 => repeat (first | exact (Kd.C_below HR0.out HB.out) | (with_reducible refine Kd.C_alloc ?_ _) | (with_reducible refine Kd.C_drewN ?_ _) | (with_reducible refine Kd.C_drew ?_))); (case side2 => exact HC0.out); rintro e w19 ⟨rfl, hb⟩; refine ⟨_, rfl, ?_⟩; have n0_ := Aside0.mk (below_step (by repeat (first | (with_reducible first | exact HB.out | apply below_alloc | apply pw_below_drewN | apply below_drew1) | exact HB.out)) hb); clear HB; have HB := n0_; clear n0_; (try clear hb); (try clear hb2); (try clear hk); (try clear hi)))
      go_meet
      case rel => exact ⟨_, (true), (by first | rfl | (simp; done) | (simp [*]; done)), H', ⟨by first | omega | exact Nat.le_refl _⟩, ⟨by repeat (first | (with_reducible first | exact HB.out | apply below_alloc | apply pw_below_drewN | apply below_drew1) | exact HB.out)⟩⟩
  case rest =>
    clear HC7
    try clear c1
    try clear p2
    try clear c4
    try clear c6
    try clear c9
    try clear c10
    try clear c10b0
    try clear c10b1
    try clear c12
    try clear c12b0
    try clear c12b1
    try clear c14
    try clear c14b0
    try clear c14b1
    try clear c16
    try clear c16b0
    try clear c16b1
    obtain ⟨kq, x43_6, rfl, HA, HJ6, HB⟩ := hcut
    cases kq with
    | zero => exact absurd HA.out (by simp [laws_FnConfigAdd.j0])
    | succ kj6 =>
      have H := HA.out
      clear HA
      simp only [laws_FnConfigAdd.j0] at H
      by_cases c20 : x43_6 = true
      · subst c20
        have H1 : (some true) = some r := by rw [if_pos rfl] at H; exact H
        clear H
        have H := H1
        clear H1
        obtain rfl := Option.some.inj H
        go_wp2
        go_ret
        exact ⟨by first | rfl | (simp [errW_none, errW_some] <;> rfl) | (simp [*, errW_none, errW_some] <;> rfl), by repeat (first | (with_reducible first | exact HB.out | apply below_alloc | apply pw_below_drewN | apply below_drew1) | exact HB.out)⟩
      · replace c20 := Bool.eq_false_iff.mpr c20
        subst c20
        have H1 : ((laws_conf.f kj6 l0).bind fun t179 => (if t179 = true then ((laws_key.f kj6 a1 a2).bind fun t180 => (if t180 = true then ((laws_key.f kj6 a4 a5).bind fun t181 => (if t181 = true then ((spec_Valued.f kj6 a3).bind fun t182 => (if t182 = true then (if a1.toList = ([] : List UInt8) then (laws_FnConfigAdd.j1 kj6 l0 a1 a2 a3 a4 a5 true) else ((spec_ConfValue.f kj6 l0 a1 a2).bind fun t183 => (laws_FnConfigAdd.j1 kj6 l0 a1 a2 a3 a4 a5 (t183.toList != ([] : List UInt8))))) else (laws_FnConfigAdd.j1 kj6 l0 a1 a2 a3 a4 a5 true))) else (laws_FnConfigAdd.j1 kj6 l0 a1 a2 a3 a4 a5 true))) else (laws_FnConfigAdd.j1 kj6 l0 a1 a2 a3 a4 a5 true))) else (laws_FnConfigAdd.j1 kj6 l0 a1 a2 a3 a4 a5 true))) = some r := by rw [if_neg (show ¬ (false = true) by decide)] at H; exact H
        clear H
        have H := H1
        clear H1
        have HC21 := Aside0.mk H
        clear H
        go_upto_region 3 with (fail)
        go_cut [74] (fun v74 wc => ∃ (kq : Nat) (x74_20 : Bool), v74 = .bool x74_20 ∧ Aside0 (laws_FnConfigAdd.j1 kq l0 a1 a2 a3 a4 a5 x74_20 = some r) ∧ Aside0 (kq ≤ kj6) ∧ Aside0 (Below w.heap.size w wc))
        case first =>
          have H := HC21.out
          clear HC21
          replace H := Option.bind_eq_some_iff.mp H
          obtain ⟨t179, A220, H⟩ := H
          replace H : (if t179 = true then ((laws_key.f kj6 a1 a2).bind fun t180 => (if t180 = true then ((laws_key.f kj6 a4 a5).bind fun t181 => (if t181 = true then ((spec_Valued.f kj6 a3).bind fun t182 => (if t182 = true then (if a1.toList = ([] : List UInt8) then (laws_FnConfigAdd.j1 kj6 l0 a1 a2 a3 a4 a5 true) else ((spec_ConfValue.f kj6 l0 a1 a2).bind fun t183 => (laws_FnConfigAdd.j1 kj6 l0 a1 a2 a3 a4 a5 (t183.toList != ([] : List UInt8))))) else (laws_FnConfigAdd.j1 kj6 l0 a1 a2 a3 a4 a5 true))) else (laws_FnConfigAdd.j1 kj6 l0 a1 a2 a3 a4 a5 true))) else (laws_FnConfigAdd.j1 kj6 l0 a1 a2 a3 a4 a5 true))) else (laws_FnConfigAdd.j1 kj6 l0 a1 a2 a3 a4 a5 true)) = some r := H
          have A22 := Aside0.mk A220
          clear A220
          by_cases c23 : t179 = true
          · subst c23
            have H1 : ((laws_key.f kj6 a1 a2).bind fun t180 => (if t180 = true then ((laws_key.f kj6 a4 a5).bind fun t181 => (if t181 = true then ((spec_Valued.f kj6 a3).bind fun t182 => (if t182 = true then (if a1.toList = ([] : List UInt8) then (laws_FnConfigAdd.j1 kj6 l0 a1 a2 a3 a4 a5 true) else ((spec_ConfValue.f kj6 l0 a1 a2).bind fun t183 => (laws_FnConfigAdd.j1 kj6 l0 a1 a2 a3 a4 a5 (t183.toList != ([] : List UInt8))))) else (laws_FnConfigAdd.j1 kj6 l0 a1 a2 a3 a4 a5 true))) else (laws_FnConfigAdd.j1 kj6 l0 a1 a2 a3 a4 a5 true))) else (laws_FnConfigAdd.j1 kj6 l0 a1 a2 a3 a4 a5 true))) = some r := by rw [if_pos rfl] at H; exact H
            clear H
            have H := H1
            clear H1
            replace H := Option.bind_eq_some_iff.mp H
            obtain ⟨t180, A240, H⟩ := H
            replace H : (if t180 = true then ((laws_key.f kj6 a4 a5).bind fun t181 => (if t181 = true then ((spec_Valued.f kj6 a3).bind fun t182 => (if t182 = true then (if a1.toList = ([] : List UInt8) then (laws_FnConfigAdd.j1 kj6 l0 a1 a2 a3 a4 a5 true) else ((spec_ConfValue.f kj6 l0 a1 a2).bind fun t183 => (laws_FnConfigAdd.j1 kj6 l0 a1 a2 a3 a4 a5 (t183.toList != ([] : List UInt8))))) else (laws_FnConfigAdd.j1 kj6 l0 a1 a2 a3 a4 a5 true))) else (laws_FnConfigAdd.j1 kj6 l0 a1 a2 a3 a4 a5 true))) else (laws_FnConfigAdd.j1 kj6 l0 a1 a2 a3 a4 a5 true)) = some r := H
            have A24 := Aside0.mk A240
            clear A240
            by_cases c25 : t180 = true
            · subst c25
              have H1 : ((laws_key.f kj6 a4 a5).bind fun t181 => (if t181 = true then ((spec_Valued.f kj6 a3).bind fun t182 => (if t182 = true then (if a1.toList = ([] : List UInt8) then (laws_FnConfigAdd.j1 kj6 l0 a1 a2 a3 a4 a5 true) else ((spec_ConfValue.f kj6 l0 a1 a2).bind fun t183 => (laws_FnConfigAdd.j1 kj6 l0 a1 a2 a3 a4 a5 (t183.toList != ([] : List UInt8))))) else (laws_FnConfigAdd.j1 kj6 l0 a1 a2 a3 a4 a5 true))) else (laws_FnConfigAdd.j1 kj6 l0 a1 a2 a3 a4 a5 true))) = some r := by rw [if_pos rfl] at H; exact H
              clear H
              have H := H1
              clear H1
              replace H := Option.bind_eq_some_iff.mp H
              obtain ⟨t181, A260, H⟩ := H
              replace H : (if t181 = true then ((spec_Valued.f kj6 a3).bind fun t182 => (if t182 = true then (if a1.toList = ([] : List UInt8) then (laws_FnConfigAdd.j1 kj6 l0 a1 a2 a3 a4 a5 true) else ((spec_ConfValue.f kj6 l0 a1 a2).bind fun t183 => (laws_FnConfigAdd.j1 kj6 l0 a1 a2 a3 a4 a5 (t183.toList != ([] : List UInt8))))) else (laws_FnConfigAdd.j1 kj6 l0 a1 a2 a3 a4 a5 true))) else (laws_FnConfigAdd.j1 kj6 l0 a1 a2 a3 a4 a5 true)) = some r := H
              have A26 := Aside0.mk A260
              clear A260
              by_cases c27 : t181 = true
              · subst c27
                have H1 : ((spec_Valued.f kj6 a3).bind fun t182 => (if t182 = true then (if a1.toList = ([] : List UInt8) then (laws_FnConfigAdd.j1 kj6 l0 a1 a2 a3 a4 a5 true) else ((spec_ConfValue.f kj6 l0 a1 a2).bind fun t183 => (laws_FnConfigAdd.j1 kj6 l0 a1 a2 a3 a4 a5 (t183.toList != ([] : List UInt8))))) else (laws_FnConfigAdd.j1 kj6 l0 a1 a2 a3 a4 a5 true))) = some r := by rw [if_pos rfl] at H; exact H
                clear H
                have H := H1
                clear H1
                replace H := Option.bind_eq_some_iff.mp H
                obtain ⟨t182, A280, H⟩ := H
                replace H : (if t182 = true then (if a1.toList = ([] : List UInt8) then (laws_FnConfigAdd.j1 kj6 l0 a1 a2 a3 a4 a5 true) else ((spec_ConfValue.f kj6 l0 a1 a2).bind fun t183 => (laws_FnConfigAdd.j1 kj6 l0 a1 a2 a3 a4 a5 (t183.toList != ([] : List UInt8))))) else (laws_FnConfigAdd.j1 kj6 l0 a1 a2 a3 a4 a5 true)) = some r := H
                have A28 := Aside0.mk A280
                clear A280
                by_cases c29 : t182 = true
                · subst c29
                  have H1 : (if a1.toList = ([] : List UInt8) then (laws_FnConfigAdd.j1 kj6 l0 a1 a2 a3 a4 a5 true) else ((spec_ConfValue.f kj6 l0 a1 a2).bind fun t183 => (laws_FnConfigAdd.j1 kj6 l0 a1 a2 a3 a4 a5 (t183.toList != ([] : List UInt8))))) = some r := by rw [if_pos rfl] at H; exact H
                  clear H
                  have H := H1
                  clear H1
                  by_cases c30 : a1.toList = ([] : List UInt8)
                  · rw [if_pos c30] at H
                    have c30b0 : (a1.toList == ([] : List UInt8)) = true := beq_iff_eq.mpr c30
                    have c30b9 : a1.toList.isEmpty = true := by rw [c30]; rfl
                    have c30b1 : (a1.toList != ([] : List UInt8)) = false := bne_eq_false_iff_eq.mpr c30
                    clear c30
                    (first | rw [c30b0] | (simp only [i64_w, i32_w]; rw [c30b0]) | skip)
                    try rw [c30b9]
                    try simp only [Bool.not_true, Bool.not_false]
                    have H' := Aside0.mk H
                    clear H
                    go_wp2_with (first | ((with_reducible refine gate_callee (f := 7) rfl ?_); refine goesL_ (some 45) rfl rfl Tryz.func7 (by kernel_rfl) rfl #[.slice A0 l0.length c0] rfl (by (try simp only [List.map_toArray, List.map_cons, List.map_nil]); first | done | rfl | (simp only [List.length_drop, List.length_take]; rfl)) ?_; (with_reducible refine (laws_conf.calls kj6 _ _ l0 true _ ?side1 ?side2 A22.out).mono ?_); (case side1 => repeat (first | exact (Kd.C_below HR0.out HB.out) | (with_reducible refine Kd.C_alloc ?_ _) | (with_reducible refine Kd.C_drewN ?_ _) | (with_reducible refine Kd.C_drew ?_))); (case side2 => exact HC0.out); rintro e w31 ⟨rfl, hb⟩; refine ⟨_, rfl, ?_⟩; have n0_ := Aside0.mk (below_step (by repeat (first | (with_reducible first | exact HB.out | apply below_alloc | apply pw_below_drewN | apply below_drew1) | exact HB.out)) hb); clear HB; have HB := n0_; clear n0_; (try clear hb); (try clear hb2); (try clear hk); (try clear hi)) | (go_at_call 8; (with_reducible refine (laws_key.calls kj6 a1 a2 true _ A24.out).mono ?_); rintro e w32 ⟨rfl, hb⟩; have n0_ := Aside0.mk (below_step (by repeat (first | (with_reducible first | exact HB.out | apply below_alloc | apply pw_below_drewN | apply below_drew1) | exact HB.out)) hb); clear HB; have HB := n0_; clear n0_; (try clear hb); (try clear hb2); (try clear hk); (try clear hi)) | (go_at_call 8; (with_reducible refine (laws_key.calls kj6 a4 a5 true _ A26.out).mono ?_); rintro e w33 ⟨rfl, hb⟩; have n0_ := Aside0.mk (below_step (by repeat (first | (with_reducible first | exact HB.out | apply below_alloc | apply pw_below_drewN | apply below_drew1) | exact HB.out)) hb); clear HB; have HB := n0_; clear n0_; (try clear hb); (try clear hb2); (try clear hk); (try clear hi)) | (go_at_call 14; (with_reducible refine (spec_Valued.calls kj6 a3 true _ A28.out).mono ?_); rintro e w' ⟨rfl, ⟨nd, rfl⟩⟩))
                    go_meet
                    case rel => exact ⟨_, (true), (by first | rfl | (simp; done) | (simp [*]; done)), H', ⟨by have := HJ6.out; first | omega | exact Nat.le_refl _⟩, ⟨by repeat (first | (with_reducible first | exact HB.out | apply below_alloc | apply pw_below_drewN | apply below_drew1) | exact HB.out)⟩⟩
                  · rw [if_neg c30] at H
                    have c30b0 : (a1.toList == ([] : List UInt8)) = false := beq_eq_false_iff_ne.mpr c30
                    have c30b9 : a1.toList.isEmpty = false := isEmpty_no_ c30
                    have c30b1 : (a1.toList != ([] : List UInt8)) = true := bne_iff_ne.mpr c30
                    (first | rw [c30b0] | (simp only [i64_w, i32_w]; rw [c30b0]) | skip)
                    try rw [c30b9]
                    try simp only [Bool.not_true, Bool.not_false]
                    replace H := Option.bind_eq_some_iff.mp H
                    obtain ⟨t183, A340, H⟩ := H
                    replace H : (laws_FnConfigAdd.j1 kj6 l0 a1 a2 a3 a4 a5 (t183.toList != ([] : List UInt8))) = some r := H
                    have A34 := Aside0.mk A340
                    clear A340
                    have H' := Aside0.mk H
                    clear H
                    go_wp2_with (first | ((with_reducible refine gate_callee (f := 7) rfl ?_); refine goesL_ (some 45) rfl rfl Tryz.func7 (by kernel_rfl) rfl #[.slice A0 l0.length c0] rfl (by (try simp only [List.map_toArray, List.map_cons, List.map_nil]); first | done | rfl | (simp only [List.length_drop, List.length_take]; rfl)) ?_; (with_reducible refine (laws_conf.calls kj6 _ _ l0 true _ ?side1 ?side2 A22.out).mono ?_); (case side1 => repeat (first | exact (Kd.C_below HR0.out HB.out) | (with_reducible refine Kd.C_alloc ?_ _) | (with_reducible refine Kd.C_drewN ?_ _) | (with_reducible refine Kd.C_drew ?_))); (case side2 => exact HC0.out); rintro e w35 ⟨rfl, hb⟩; refine ⟨_, rfl, ?_⟩; have n0_ := Aside0.mk (below_step (by repeat (first | (with_reducible first | exact HB.out | apply below_alloc | apply pw_below_drewN | apply below_drew1) | exact HB.out)) hb); clear HB; have HB := n0_; clear n0_; (try clear hb); (try clear hb2); (try clear hk); (try clear hi)) | (go_at_call 8; (with_reducible refine (laws_key.calls kj6 a1 a2 true _ A24.out).mono ?_); rintro e w36 ⟨rfl, hb⟩; have n0_ := Aside0.mk (below_step (by repeat (first | (with_reducible first | exact HB.out | apply below_alloc | apply pw_below_drewN | apply below_drew1) | exact HB.out)) hb); clear HB; have HB := n0_; clear n0_; (try clear hb); (try clear hb2); (try clear hk); (try clear hi)) | (go_at_call 8; (with_reducible refine (laws_key.calls kj6 a4 a5 true _ A26.out).mono ?_); rintro e w37 ⟨rfl, hb⟩; have n0_ := Aside0.mk (below_step (by repeat (first | (with_reducible first | exact HB.out | apply below_alloc | apply pw_below_drewN | apply below_drew1) | exact HB.out)) hb); clear HB; have HB := n0_; clear n0_; (try clear hb); (try clear hb2); (try clear hk); (try clear hi)) | (go_at_call 14; (with_reducible refine (spec_Valued.calls kj6 a3 true _ A28.out).mono ?_); rintro e w' ⟨rfl, ⟨nd, rfl⟩⟩) | (go_at_call 13; (with_reducible refine (spec_ConfValue.calls kj6 _ _ l0 a1 a2 t183 _ ?side1 ?side2 A34.out).mono ?_); (case side1 => repeat (first | exact (Kd.C_below HR0.out (by repeat (first | (with_reducible first | exact HB.out | apply below_alloc | apply pw_below_drewN | apply below_drew1) | exact HB.out))) | (with_reducible refine Kd.C_alloc ?_ _) | (with_reducible refine Kd.C_drewN ?_ _) | (with_reducible refine Kd.C_drew ?_))); (case side2 => exact HC0.out); rintro e w' ⟨rfl, ⟨nd, rfl⟩⟩))
                    go_meet
                    case rel => exact ⟨_, ((t183.toList != ([] : List UInt8))), (by first | rfl | (simp; done) | (simp [*]; done) | (cases t183.toList <;> rfl)), H', ⟨by have := HJ6.out; first | omega | exact Nat.le_refl _⟩, ⟨by repeat (first | (with_reducible first | exact HB.out | apply below_alloc | apply pw_below_drewN | apply below_drew1) | exact HB.out)⟩⟩
                · replace c29 := Bool.eq_false_iff.mpr c29
                  subst c29
                  have H1 : (laws_FnConfigAdd.j1 kj6 l0 a1 a2 a3 a4 a5 true) = some r := by rw [if_neg (show ¬ (false = true) by decide)] at H; exact H
                  clear H
                  have H := H1
                  clear H1
                  have H' := Aside0.mk H
                  clear H
                  go_wp2_with (first | ((with_reducible refine gate_callee (f := 7) rfl ?_); refine goesL_ (some 45) rfl rfl Tryz.func7 (by kernel_rfl) rfl #[.slice A0 l0.length c0] rfl (by (try simp only [List.map_toArray, List.map_cons, List.map_nil]); first | done | rfl | (simp only [List.length_drop, List.length_take]; rfl)) ?_; (with_reducible refine (laws_conf.calls kj6 _ _ l0 true _ ?side1 ?side2 A22.out).mono ?_); (case side1 => repeat (first | exact (Kd.C_below HR0.out HB.out) | (with_reducible refine Kd.C_alloc ?_ _) | (with_reducible refine Kd.C_drewN ?_ _) | (with_reducible refine Kd.C_drew ?_))); (case side2 => exact HC0.out); rintro e w38 ⟨rfl, hb⟩; refine ⟨_, rfl, ?_⟩; have n0_ := Aside0.mk (below_step (by repeat (first | (with_reducible first | exact HB.out | apply below_alloc | apply pw_below_drewN | apply below_drew1) | exact HB.out)) hb); clear HB; have HB := n0_; clear n0_; (try clear hb); (try clear hb2); (try clear hk); (try clear hi)) | (go_at_call 8; (with_reducible refine (laws_key.calls kj6 a1 a2 true _ A24.out).mono ?_); rintro e w39 ⟨rfl, hb⟩; have n0_ := Aside0.mk (below_step (by repeat (first | (with_reducible first | exact HB.out | apply below_alloc | apply pw_below_drewN | apply below_drew1) | exact HB.out)) hb); clear HB; have HB := n0_; clear n0_; (try clear hb); (try clear hb2); (try clear hk); (try clear hi)) | (go_at_call 8; (with_reducible refine (laws_key.calls kj6 a4 a5 true _ A26.out).mono ?_); rintro e w40 ⟨rfl, hb⟩; have n0_ := Aside0.mk (below_step (by repeat (first | (with_reducible first | exact HB.out | apply below_alloc | apply pw_below_drewN | apply below_drew1) | exact HB.out)) hb); clear HB; have HB := n0_; clear n0_; (try clear hb); (try clear hb2); (try clear hk); (try clear hi)) | (go_at_call 14; (with_reducible refine (spec_Valued.calls kj6 a3 false _ A28.out).mono ?_); rintro e w' ⟨rfl, ⟨nd, rfl⟩⟩))
                  go_meet
                  case rel => exact ⟨_, (true), (by first | rfl | (simp; done) | (simp [*]; done)), H', ⟨by have := HJ6.out; first | omega | exact Nat.le_refl _⟩, ⟨by repeat (first | (with_reducible first | exact HB.out | apply below_alloc | apply pw_below_drewN | apply below_drew1) | exact HB.out)⟩⟩
              · replace c27 := Bool.eq_false_iff.mpr c27
                subst c27
                have H1 : (laws_FnConfigAdd.j1 kj6 l0 a1 a2 a3 a4 a5 true) = some r := by rw [if_neg (show ¬ (false = true) by decide)] at H; exact H
                clear H
                have H := H1
                clear H1
                have H' := Aside0.mk H
                clear H
                go_wp2_with (first | ((with_reducible refine gate_callee (f := 7) rfl ?_); refine goesL_ (some 45) rfl rfl Tryz.func7 (by kernel_rfl) rfl #[.slice A0 l0.length c0] rfl (by (try simp only [List.map_toArray, List.map_cons, List.map_nil]); first | done | rfl | (simp only [List.length_drop, List.length_take]; rfl)) ?_; (with_reducible refine (laws_conf.calls kj6 _ _ l0 true _ ?side1 ?side2 A22.out).mono ?_); (case side1 => repeat (first | exact (Kd.C_below HR0.out HB.out) | (with_reducible refine Kd.C_alloc ?_ _) | (with_reducible refine Kd.C_drewN ?_ _) | (with_reducible refine Kd.C_drew ?_))); (case side2 => exact HC0.out); rintro e w41 ⟨rfl, hb⟩; refine ⟨_, rfl, ?_⟩; have n0_ := Aside0.mk (below_step (by repeat (first | (with_reducible first | exact HB.out | apply below_alloc | apply pw_below_drewN | apply below_drew1) | exact HB.out)) hb); clear HB; have HB := n0_; clear n0_; (try clear hb); (try clear hb2); (try clear hk); (try clear hi)) | (go_at_call 8; (with_reducible refine (laws_key.calls kj6 a1 a2 true _ A24.out).mono ?_); rintro e w42 ⟨rfl, hb⟩; have n0_ := Aside0.mk (below_step (by repeat (first | (with_reducible first | exact HB.out | apply below_alloc | apply pw_below_drewN | apply below_drew1) | exact HB.out)) hb); clear HB; have HB := n0_; clear n0_; (try clear hb); (try clear hb2); (try clear hk); (try clear hi)) | (go_at_call 8; (with_reducible refine (laws_key.calls kj6 a4 a5 false _ A26.out).mono ?_); rintro e w43 ⟨rfl, hb⟩; have n0_ := Aside0.mk (below_step (by repeat (first | (with_reducible first | exact HB.out | apply below_alloc | apply pw_below_drewN | apply below_drew1) | exact HB.out)) hb); clear HB; have HB := n0_; clear n0_; (try clear hb); (try clear hb2); (try clear hk); (try clear hi)))
                go_meet
                case rel => exact ⟨_, (true), (by first | rfl | (simp; done) | (simp [*]; done)), H', ⟨by have := HJ6.out; first | omega | exact Nat.le_refl _⟩, ⟨by repeat (first | (with_reducible first | exact HB.out | apply below_alloc | apply pw_below_drewN | apply below_drew1) | exact HB.out)⟩⟩
            · replace c25 := Bool.eq_false_iff.mpr c25
              subst c25
              have H1 : (laws_FnConfigAdd.j1 kj6 l0 a1 a2 a3 a4 a5 true) = some r := by rw [if_neg (show ¬ (false = true) by decide)] at H; exact H
              clear H
              have H := H1
              clear H1
              have H' := Aside0.mk H
              clear H
              go_wp2_with (first | ((with_reducible refine gate_callee (f := 7) rfl ?_); refine goesL_ (some 45) rfl rfl Tryz.func7 (by kernel_rfl) rfl #[.slice A0 l0.length c0] rfl (by (try simp only [List.map_toArray, List.map_cons, List.map_nil]); first | done | rfl | (simp only [List.length_drop, List.length_take]; rfl)) ?_; (with_reducible refine (laws_conf.calls kj6 _ _ l0 true _ ?side1 ?side2 A22.out).mono ?_); (case side1 => repeat (first | exact (Kd.C_below HR0.out HB.out) | (with_reducible refine Kd.C_alloc ?_ _) | (with_reducible refine Kd.C_drewN ?_ _) | (with_reducible refine Kd.C_drew ?_))); (case side2 => exact HC0.out); rintro e w44 ⟨rfl, hb⟩; refine ⟨_, rfl, ?_⟩; have n0_ := Aside0.mk (below_step (by repeat (first | (with_reducible first | exact HB.out | apply below_alloc | apply pw_below_drewN | apply below_drew1) | exact HB.out)) hb); clear HB; have HB := n0_; clear n0_; (try clear hb); (try clear hb2); (try clear hk); (try clear hi)) | (go_at_call 8; (with_reducible refine (laws_key.calls kj6 a1 a2 false _ A24.out).mono ?_); rintro e w45 ⟨rfl, hb⟩; have n0_ := Aside0.mk (below_step (by repeat (first | (with_reducible first | exact HB.out | apply below_alloc | apply pw_below_drewN | apply below_drew1) | exact HB.out)) hb); clear HB; have HB := n0_; clear n0_; (try clear hb); (try clear hb2); (try clear hk); (try clear hi)))
              go_meet
              case rel => exact ⟨_, (true), (by first | rfl | (simp; done) | (simp [*]; done)), H', ⟨by have := HJ6.out; first | omega | exact Nat.le_refl _⟩, ⟨by repeat (first | (with_reducible first | exact HB.out | apply below_alloc | apply pw_below_drewN | apply below_drew1) | exact HB.out)⟩⟩
          · replace c23 := Bool.eq_false_iff.mpr c23
            subst c23
            have H1 : (laws_FnConfigAdd.j1 kj6 l0 a1 a2 a3 a4 a5 true) = some r := by rw [if_neg (show ¬ (false = true) by decide)] at H; exact H
            clear H
            have H := H1
            clear H1
            have H' := Aside0.mk H
            clear H
            go_wp2_with (first | ((with_reducible refine gate_callee (f := 7) rfl ?_); refine goesL_ (some 45) rfl rfl Tryz.func7 (by kernel_rfl) rfl #[.slice A0 l0.length c0] rfl (by (try simp only [List.map_toArray, List.map_cons, List.map_nil]); first | done | rfl | (simp only [List.length_drop, List.length_take]; rfl)) ?_; (with_reducible refine (laws_conf.calls kj6 _ _ l0 false _ ?side1 ?side2 A22.out).mono ?_); (case side1 => repeat (first | exact (Kd.C_below HR0.out HB.out) | (with_reducible refine Kd.C_alloc ?_ _) | (with_reducible refine Kd.C_drewN ?_ _) | (with_reducible refine Kd.C_drew ?_))); (case side2 => exact HC0.out); rintro e w46 ⟨rfl, hb⟩; refine ⟨_, rfl, ?_⟩; have n0_ := Aside0.mk (below_step (by repeat (first | (with_reducible first | exact HB.out | apply below_alloc | apply pw_below_drewN | apply below_drew1) | exact HB.out)) hb); clear HB; have HB := n0_; clear n0_; (try clear hb); (try clear hb2); (try clear hk); (try clear hi)))
            go_meet
            case rel => exact ⟨_, (true), (by first | rfl | (simp; done) | (simp [*]; done)), H', ⟨by have := HJ6.out; first | omega | exact Nat.le_refl _⟩, ⟨by repeat (first | (with_reducible first | exact HB.out | apply below_alloc | apply pw_below_drewN | apply below_drew1) | exact HB.out)⟩⟩
        case rest =>
          clear HC21
          try clear c1
          try clear c2
          try clear p2
          try clear c3
          try clear c4
          try clear c6
          try clear c7
          try clear c9
          try clear c10
          try clear c10b0
          try clear c10b1
          try clear c12
          try clear c12b0
          try clear c12b1
          try clear c14
          try clear c14b0
          try clear c14b1
          try clear c16
          try clear c16b0
          try clear c16b1
          try clear c20
          try clear c23
          try clear c25
          try clear c27
          try clear c29
          try clear c30
          try clear c30b0
          try clear c30b1
          try clear p2
          obtain ⟨kq, x74_20, rfl, HA, HJ20, HB⟩ := hcut
          cases kq with
          | zero => exact absurd HA.out (by simp [laws_FnConfigAdd.j1])
          | succ kj20 =>
            have H := HA.out
            clear HA
            simp only [laws_FnConfigAdd.j1] at H
            by_cases c47 : x74_20 = true
            · subst c47
              have H1 : ((laws_awakeConf.f).bind fun t184 => (some t184)) = some r := by rw [if_pos rfl] at H; exact H
              clear H
              have H := H1
              clear H1
              replace H := Option.bind_eq_some_iff.mp H
              obtain ⟨t184, A480, H⟩ := H
              replace H : (some t184) = some r := H
              have A48 := Aside0.mk A480
              clear A480
              obtain rfl := Option.some.inj H
              go_wp2_with (first | ((with_reducible refine gate_callee (f := 9) rfl ?_); refine goesL_ (some 75) rfl rfl Tryz.func9 (by kernel_rfl) rfl #[] rfl (by (try simp only [List.map_toArray, List.map_cons, List.map_nil]); first | done | rfl | (simp only [List.length_drop, List.length_take]; rfl)) ?_; (with_reducible refine (laws_awakeConf.calls  t184 _ (by repeat (first | exact HPM.out | exact prem_below HPM.out HB.out | (with_reducible refine prem_below ?_ (Drawn0.below ⟨_, rfl⟩)))) A48.out).mono ?_); rintro e w49 ⟨rfl, hb⟩; refine ⟨_, rfl, ?_⟩; have n0_ := Aside0.mk (below_step (by repeat (first | (with_reducible first | exact HB.out | apply below_alloc | apply pw_below_drewN | apply below_drew1) | exact HB.out)) hb); clear HB; have HB := n0_; clear n0_; (try clear hb); (try clear hb2); (try clear hk); (try clear hi)))
              go_ret
              exact ⟨by first | rfl | (simp [errW_none, errW_some] <;> rfl) | (simp [*, errW_none, errW_some] <;> rfl), by repeat (first | (with_reducible first | exact HB.out | apply below_alloc | apply pw_below_drewN | apply below_drew1) | exact HB.out)⟩
            · replace c47 := Bool.eq_false_iff.mpr c47
              subst c47
              have H1 : ((spec_ConfValue.f kj20 l0 a4 a5).bind fun t185 => (if a4.toList = a1.toList then (laws_FnConfigAdd.j2 kj20 l0 a1 a2 a3 a4 a5 t185 (a5.toList == a2.toList)) else (laws_FnConfigAdd.j2 kj20 l0 a1 a2 a3 a4 a5 t185 false))) = some r := by rw [if_neg (show ¬ (false = true) by decide)] at H; exact H
              clear H
              have H := H1
              clear H1
              replace H := Option.bind_eq_some_iff.mp H
              obtain ⟨t185, A500, H⟩ := H
              replace H : (if a4.toList = a1.toList then (laws_FnConfigAdd.j2 kj20 l0 a1 a2 a3 a4 a5 t185 (a5.toList == a2.toList)) else (laws_FnConfigAdd.j2 kj20 l0 a1 a2 a3 a4 a5 t185 false)) = some r := H
              have A50 := Aside0.mk A500
              clear A500
              have HC51 := Aside0.mk H
              clear H
              go_upto_region 6 with (first | ((with_reducible refine gate_callee (f := 13) rfl ?_); refine goesL_ (some 79) rfl rfl Tryz.func13 (by kernel_rfl) rfl #[.slice A0 l0.length c0, .string a4, .string a5] rfl (by (try simp only [List.map_toArray, List.map_cons, List.map_nil]); first | done | rfl | (simp only [List.length_drop, List.length_take]; rfl)) ?_; (with_reducible refine (spec_ConfValue.calls kj20 _ _ l0 a4 a5 t185 _ ?side1 ?side2 A50.out).mono ?_); (case side1 => repeat (first | exact (Kd.C_below HR0.out HB.out) | (with_reducible refine Kd.C_alloc ?_ _) | (with_reducible refine Kd.C_drewN ?_ _) | (with_reducible refine Kd.C_drew ?_))); (case side2 => exact HC0.out); rintro e w' ⟨rfl, ⟨nd, rfl⟩⟩; refine ⟨_, rfl, ?_⟩))
              (try simp only [Act.put, List.setIfInBounds_toArray, List.set_cons_zero, List.set_cons_succ])
              go_cut [87] (fun v87 wc => ∃ (kq : Nat) (x87_50 : Bool), v87 = .bool x87_50 ∧ Aside0 (laws_FnConfigAdd.j2 kq l0 a1 a2 a3 a4 a5 t185 x87_50 = some r) ∧ Aside0 (kq ≤ kj20) ∧ Aside0 (Below w.heap.size w wc))
              case first =>
                have H := HC51.out
                clear HC51
                by_cases c52 : a4.toList = a1.toList
                · rw [if_pos c52] at H
                  have c52b0 : (a4.toList == a1.toList) = true := beq_iff_eq.mpr c52
                  have c52b1 : (a4.toList != a1.toList) = false := bne_eq_false_iff_eq.mpr c52
                  clear c52
                  (first | rw [c52b0] | (simp only [i64_w, i32_w]; rw [c52b0]) | skip)
                  have H' := Aside0.mk H
                  clear H
                  go_wp2
                  go_meet
                  case rel => exact ⟨_, ((a5.toList == a2.toList)), (by first | rfl | (simp; done) | (simp [*]; done)), H', ⟨by have := HJ6.out; have := HJ20.out; first | omega | exact Nat.le_refl _⟩, ⟨by repeat (first | (with_reducible first | exact HB.out | apply below_alloc | apply pw_below_drewN | apply below_drew1) | exact HB.out)⟩⟩
                · rw [if_neg c52] at H
                  have c52b0 : (a4.toList == a1.toList) = false := beq_eq_false_iff_ne.mpr c52
                  have c52b1 : (a4.toList != a1.toList) = true := bne_iff_ne.mpr c52
                  (first | rw [c52b0] | (simp only [i64_w, i32_w]; rw [c52b0]) | skip)
                  have H' := Aside0.mk H
                  clear H
                  go_wp2
                  go_meet
                  case rel => exact ⟨_, (false), (by first | rfl | (simp; done) | (simp [*]; done)), H', ⟨by have := HJ6.out; have := HJ20.out; first | omega | exact Nat.le_refl _⟩, ⟨by repeat (first | (with_reducible first | exact HB.out | apply below_alloc | apply pw_below_drewN | apply below_drew1) | exact HB.out)⟩⟩
              case rest =>
                clear HC51
                try clear c1
                try clear c2
                try clear p2
                try clear c3
                try clear c4
                try clear c5
                try clear c6
                try clear c7
                try clear c9
                try clear c10
                try clear c10b0
                try clear c10b1
                try clear c12
                try clear c12b0
                try clear c12b1
                try clear c13
                try clear c14
                try clear c14b0
                try clear c14b1
                try clear c16
                try clear c16b0
                try clear c16b1
                try clear c20
                try clear c23
                try clear c25
                try clear c27
                try clear c29
                try clear c30
                try clear c30b0
                try clear c30b1
                try clear c47
                try clear c52
                try clear c52b0
                try clear c52b1
                try clear p2
                obtain ⟨kq, x87_50, rfl, HA, HJ50, HB⟩ := hcut
                cases kq with
                | zero => exact absurd HA.out (by simp [laws_FnConfigAdd.j2])
                | succ kj50 =>
                  have H := HA.out
                  clear HA
                  simp only [laws_FnConfigAdd.j2] at H
                  have HC53 := Aside0.mk H
                  clear H
                  go_upto_if 87 with (fail)
                  go_cut [13] (fun v13 wc => ∃ (kq : Nat) (x13_52 : ByteArray), v13 = .string x13_52 ∧ Aside0 (laws_FnConfigAdd.j3 kq l0 a1 a2 a3 a4 a5 x13_52 = some r) ∧ Aside0 (kq ≤ kj50) ∧ Aside0 (Below w.heap.size w wc))
                  case first =>
                    have H := HC53.out
                    clear HC53
                    by_cases c54 : x87_50 = true
                    · subst c54
                      have H1 : (laws_FnConfigAdd.j3 kj50 l0 a1 a2 a3 a4 a5 a3) = some r := by rw [if_pos rfl] at H; exact H
                      clear H
                      have H := H1
                      clear H1
                      have H' := Aside0.mk H
                      clear H
                      go_wp2
                      go_meet
                      case rel => exact ⟨_, (a3), (by first | rfl | (simp; done) | (simp [*]; done)), H', ⟨by have := HJ6.out; have := HJ20.out; have := HJ50.out; first | omega | exact Nat.le_refl _⟩, ⟨by repeat (first | (with_reducible first | exact HB.out | apply below_alloc | apply pw_below_drewN | apply below_drew1) | exact HB.out)⟩⟩
                    · replace c54 := Bool.eq_false_iff.mpr c54
                      subst c54
                      have H1 : (laws_FnConfigAdd.j3 kj50 l0 a1 a2 a3 a4 a5 t185) = some r := by rw [if_neg (show ¬ (false = true) by decide)] at H; exact H
                      clear H
                      have H := H1
                      clear H1
                      have H' := Aside0.mk H
                      clear H
                      go_wp2
                      go_meet
                      case rel => exact ⟨_, (t185), (by first | rfl | (simp; done) | (simp [*]; done)), H', ⟨by have := HJ6.out; have := HJ20.out; have := HJ50.out; first | omega | exact Nat.le_refl _⟩, ⟨by repeat (first | (with_reducible first | exact HB.out | apply below_alloc | apply pw_below_drewN | apply below_drew1) | exact HB.out)⟩⟩
                  case rest =>
                    clear HC53
                    try clear c1
                    try clear c2
                    try clear p2
                    try clear c3
                    try clear c4
                    try clear c5
                    try clear c6
                    try clear c7
                    try clear c9
                    try clear c10
                    try clear c10b0
                    try clear c10b1
                    try clear c12
                    try clear c12b0
                    try clear c12b1
                    try clear c13
                    try clear c14
                    try clear c14b0
                    try clear c14b1
                    try clear c16
                    try clear c16b0
                    try clear c16b1
                    try clear c20
                    try clear c23
                    try clear c25
                    try clear c27
                    try clear c29
                    try clear c30
                    try clear c30b0
                    try clear c30b1
                    try clear c47
                    try clear c52
                    try clear c52b0
                    try clear c52b1
                    try clear c54
                    try clear p2
                    obtain ⟨kq, x13_52, rfl, HA, HJ52, HB⟩ := hcut
                    cases kq with
                    | zero => exact absurd HA.out (by simp [laws_FnConfigAdd.j3])
                    | succ kj52 =>
                      have H := HA.out
                      clear HA
                      simp only [laws_FnConfigAdd.j3] at H
                      replace H := Option.bind_eq_some_iff.mp H
                      obtain ⟨t186, A550, H⟩ := H
                      replace H : ((spec_ConfKey.f a4 a5).bind fun t187 => ((impl_ConfigAdd.f t186 a1 a2 a3 t187).bind fun bt188 => (if bt188.2 = 0 then (if bt188.1.toList = x13_52.toList then ((laws_awakeConf.f).bind fun t190 => (some t190)) else (some false)) else (some false)))) = some r := H
                      have A55 := Aside0.mk A550
                      clear A550
                      replace H := Option.bind_eq_some_iff.mp H
                      obtain ⟨t187, A560, H⟩ := H
                      replace H : ((impl_ConfigAdd.f t186 a1 a2 a3 t187).bind fun bt188 => (if bt188.2 = 0 then (if bt188.1.toList = x13_52.toList then ((laws_awakeConf.f).bind fun t190 => (some t190)) else (some false)) else (some false))) = some r := H
                      have A56 := Aside0.mk A560
                      clear A560
                      replace H := Option.bind_eq_some_iff.mp H
                      obtain ⟨⟨t188, t189⟩, A570, H⟩ := H
                      replace H : (if t189 = 0 then (if t188.toList = x13_52.toList then ((laws_awakeConf.f).bind fun t190 => (some t190)) else (some false)) else (some false)) = some r := H
                      have A57 := Aside0.mk A570
                      clear A570
                      by_cases c58 : t189 = 0
                      · rw [if_pos c58] at H
                        have c58b0 : (t189 == 0) = true := beq_iff_eq.mpr c58
                        have c58b1 : (t189 != 0) = false := bne_eq_false_iff_eq.mpr c58
                        clear c58
                        by_cases c59 : t188.toList = x13_52.toList
                        · rw [if_pos c59] at H
                          have c59b0 : (t188.toList == x13_52.toList) = true := beq_iff_eq.mpr c59
                          have c59b1 : (t188.toList != x13_52.toList) = false := bne_eq_false_iff_eq.mpr c59
                          clear c59
                          replace H := Option.bind_eq_some_iff.mp H
                          obtain ⟨t190, A600, H⟩ := H
                          replace H : (some t190) = some r := H
                          have A60 := Aside0.mk A600
                          clear A600
                          obtain rfl := Option.some.inj H
                          go_wp2_with (first | ((with_reducible refine gate_callee (f := 11) rfl ?_); refine goesL_ (some 91) rfl rfl Tryz.func11 (by kernel_rfl) rfl #[.slice A0 l0.length c0] rfl (by (try simp only [List.map_toArray, List.map_cons, List.map_nil]); first | done | rfl | (simp only [List.length_drop, List.length_take]; rfl)) ?_; (with_reducible refine (spec_ConfText.calls kj52 _ _ l0 t186 _ ?side1 ?side2 A55.out).mono ?_); (case side1 => repeat (first | exact (Kd.C_below HR0.out HB.out) | (with_reducible refine Kd.C_alloc ?_ _) | (with_reducible refine Kd.C_drewN ?_ _) | (with_reducible refine Kd.C_drew ?_))); (case side2 => exact HC0.out); rintro e w' ⟨rfl, ⟨nd, rfl⟩⟩; refine ⟨_, rfl, ?_⟩) | ((with_reducible refine gate_callee (f := 12) rfl ?_); refine goesL_ (some 97) rfl rfl Tryz.func12 (by kernel_rfl) rfl #[.string a4, .string a5] rfl (by (try simp only [List.map_toArray, List.map_cons, List.map_nil]); first | done | rfl | (simp only [List.length_drop, List.length_take]; rfl)) ?_; (with_reducible refine (spec_ConfKey.calls a4 a5 t187 _ A56.out).mono ?_); rintro e w' ⟨rfl, ⟨nd, rfl⟩⟩; refine ⟨_, rfl, ?_⟩) | ((with_reducible refine gate_callee (f := 15) rfl ?_); refine goesL_ (some 98) rfl rfl Tryz.func15 (by kernel_rfl) rfl #[.string t186, .string a1, .string a2, .string a3, .string t187] rfl (by (try simp only [List.map_toArray, List.map_cons, List.map_nil]); first | done | rfl | (simp only [List.length_drop, List.length_take]; rfl)) ?_; (with_reducible refine (impl_ConfigAdd.calls t186 a1 a2 a3 t187 t188 t189 _ (by repeat (first | exact HPM.out | exact prem_below HPM.out HB.out | (with_reducible refine prem_below ?_ (Drawn0.below ⟨_, rfl⟩)))) A57.out).mono ?_); rintro e w61 ⟨rfl, hb⟩; refine ⟨_, rfl, ?_⟩; have n0_ := Aside0.mk (below_step (by repeat (first | (with_reducible first | exact HB.out | apply below_alloc | apply pw_below_drewN | apply below_drew1) | exact HB.out)) hb); clear HB; have HB := n0_; clear n0_; (try clear hb); (try clear hb2); (try clear hk); (try clear hi)) | (go_at_call 9; (with_reducible refine (laws_awakeConf.calls  t190 _ (by repeat (first | exact HPM.out | exact prem_below HPM.out HB.out | (with_reducible refine prem_below ?_ (Drawn0.below ⟨_, rfl⟩)))) A60.out).mono ?_); rintro e w62 ⟨rfl, hb⟩; have n0_ := Aside0.mk (below_step (by repeat (first | (with_reducible first | exact HB.out | apply below_alloc | apply pw_below_drewN | apply below_drew1) | exact HB.out)) hb); clear HB; have HB := n0_; clear n0_; (try clear hb); (try clear hb2); (try clear hk); (try clear hi)))
                          go_ret
                          exact ⟨by first | rfl | (simp [errW_none, errW_some] <;> rfl) | (simp [*, errW_none, errW_some] <;> rfl), by repeat (first | (with_reducible first | exact HB.out | apply below_alloc | apply pw_below_drewN | apply below_drew1) | exact HB.out)⟩
                        · rw [if_neg c59] at H
                          have c59b0 : (t188.toList == x13_52.toList) = false := beq_eq_false_iff_ne.mpr c59
                          have c59b1 : (t188.toList != x13_52.toList) = true := bne_iff_ne.mpr c59
                          obtain rfl := Option.some.inj H
                          go_wp2_with (first | ((with_reducible refine gate_callee (f := 11) rfl ?_); refine goesL_ (some 91) rfl rfl Tryz.func11 (by kernel_rfl) rfl #[.slice A0 l0.length c0] rfl (by (try simp only [List.map_toArray, List.map_cons, List.map_nil]); first | done | rfl | (simp only [List.length_drop, List.length_take]; rfl)) ?_; (with_reducible refine (spec_ConfText.calls kj52 _ _ l0 t186 _ ?side1 ?side2 A55.out).mono ?_); (case side1 => repeat (first | exact (Kd.C_below HR0.out HB.out) | (with_reducible refine Kd.C_alloc ?_ _) | (with_reducible refine Kd.C_drewN ?_ _) | (with_reducible refine Kd.C_drew ?_))); (case side2 => exact HC0.out); rintro e w' ⟨rfl, ⟨nd, rfl⟩⟩; refine ⟨_, rfl, ?_⟩) | ((with_reducible refine gate_callee (f := 12) rfl ?_); refine goesL_ (some 97) rfl rfl Tryz.func12 (by kernel_rfl) rfl #[.string a4, .string a5] rfl (by (try simp only [List.map_toArray, List.map_cons, List.map_nil]); first | done | rfl | (simp only [List.length_drop, List.length_take]; rfl)) ?_; (with_reducible refine (spec_ConfKey.calls a4 a5 t187 _ A56.out).mono ?_); rintro e w' ⟨rfl, ⟨nd, rfl⟩⟩; refine ⟨_, rfl, ?_⟩) | ((with_reducible refine gate_callee (f := 15) rfl ?_); refine goesL_ (some 98) rfl rfl Tryz.func15 (by kernel_rfl) rfl #[.string t186, .string a1, .string a2, .string a3, .string t187] rfl (by (try simp only [List.map_toArray, List.map_cons, List.map_nil]); first | done | rfl | (simp only [List.length_drop, List.length_take]; rfl)) ?_; (with_reducible refine (impl_ConfigAdd.calls t186 a1 a2 a3 t187 t188 t189 _ (by repeat (first | exact HPM.out | exact prem_below HPM.out HB.out | (with_reducible refine prem_below ?_ (Drawn0.below ⟨_, rfl⟩)))) A57.out).mono ?_); rintro e w63 ⟨rfl, hb⟩; refine ⟨_, rfl, ?_⟩; have n0_ := Aside0.mk (below_step (by repeat (first | (with_reducible first | exact HB.out | apply below_alloc | apply pw_below_drewN | apply below_drew1) | exact HB.out)) hb); clear HB; have HB := n0_; clear n0_; (try clear hb); (try clear hb2); (try clear hk); (try clear hi)))
                          go_ret
                          exact ⟨by first | rfl | (simp [errW_none, errW_some] <;> rfl) | (simp [*, errW_none, errW_some] <;> rfl), by repeat (first | (with_reducible first | exact HB.out | apply below_alloc | apply pw_below_drewN | apply below_drew1) | exact HB.out)⟩
                      · rw [if_neg c58] at H
                        have c58b0 : (t189 == 0) = false := beq_eq_false_iff_ne.mpr c58
                        have c58b1 : (t189 != 0) = true := bne_iff_ne.mpr c58
                        obtain rfl := Option.some.inj H
                        go_wp2_with (first | ((with_reducible refine gate_callee (f := 11) rfl ?_); refine goesL_ (some 91) rfl rfl Tryz.func11 (by kernel_rfl) rfl #[.slice A0 l0.length c0] rfl (by (try simp only [List.map_toArray, List.map_cons, List.map_nil]); first | done | rfl | (simp only [List.length_drop, List.length_take]; rfl)) ?_; (with_reducible refine (spec_ConfText.calls kj52 _ _ l0 t186 _ ?side1 ?side2 A55.out).mono ?_); (case side1 => repeat (first | exact (Kd.C_below HR0.out HB.out) | (with_reducible refine Kd.C_alloc ?_ _) | (with_reducible refine Kd.C_drewN ?_ _) | (with_reducible refine Kd.C_drew ?_))); (case side2 => exact HC0.out); rintro e w' ⟨rfl, ⟨nd, rfl⟩⟩; refine ⟨_, rfl, ?_⟩) | ((with_reducible refine gate_callee (f := 12) rfl ?_); refine goesL_ (some 97) rfl rfl Tryz.func12 (by kernel_rfl) rfl #[.string a4, .string a5] rfl (by (try simp only [List.map_toArray, List.map_cons, List.map_nil]); first | done | rfl | (simp only [List.length_drop, List.length_take]; rfl)) ?_; (with_reducible refine (spec_ConfKey.calls a4 a5 t187 _ A56.out).mono ?_); rintro e w' ⟨rfl, ⟨nd, rfl⟩⟩; refine ⟨_, rfl, ?_⟩) | ((with_reducible refine gate_callee (f := 15) rfl ?_); refine goesL_ (some 98) rfl rfl Tryz.func15 (by kernel_rfl) rfl #[.string t186, .string a1, .string a2, .string a3, .string t187] rfl (by (try simp only [List.map_toArray, List.map_cons, List.map_nil]); first | done | rfl | (simp only [List.length_drop, List.length_take]; rfl)) ?_; (with_reducible refine (impl_ConfigAdd.calls t186 a1 a2 a3 t187 t188 t189 _ (by repeat (first | exact HPM.out | exact prem_below HPM.out HB.out | (with_reducible refine prem_below ?_ (Drawn0.below ⟨_, rfl⟩)))) A57.out).mono ?_); rintro e w64 ⟨rfl, hb⟩; refine ⟨_, rfl, ?_⟩; have n0_ := Aside0.mk (below_step (by repeat (first | (with_reducible first | exact HB.out | apply below_alloc | apply pw_below_drewN | apply below_drew1) | exact HB.out)) hb); clear HB; have HB := n0_; clear n0_; (try clear hb); (try clear hb2); (try clear hk); (try clear hi)))
                        go_ret
                        exact ⟨by first | rfl | (simp [errW_none, errW_some] <;> rfl) | (simp [*, errW_none, errW_some] <;> rfl), by repeat (first | (with_reducible first | exact HB.out | apply below_alloc | apply pw_below_drewN | apply below_drew1) | exact HB.out)⟩

end Go.Proofs.YtbomcdnijklgjaaGreatDoor.PFnConfigAdd
