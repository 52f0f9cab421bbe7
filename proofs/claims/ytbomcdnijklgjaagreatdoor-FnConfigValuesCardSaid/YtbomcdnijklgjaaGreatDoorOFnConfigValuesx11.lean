/- The machine side of laws.FnConfigValues: each function of this text answers what its Lean function answers (written for this claim by a program of this session over the kit's print; no condition beyond what each theorem says). -/
import Derived.Test.YtbomcdnijklgjaaGreatDoorOFnConfigValuesx0
import Derived.Test.YtbomcdnijklgjaaGreatDoorOFnConfigValuesx1
import Derived.Test.YtbomcdnijklgjaaGreatDoorOFnConfigValuesx4
import Derived.Test.YtbomcdnijklgjaaGreatDoorOFnConfigValuesx6
import Derived.Test.YtbomcdnijklgjaaGreatDoorOFnConfigValuesx7
import Derived.Test.YtbomcdnijklgjaaGreatDoorOFnConfigValuesx8
import Derived.Test.YtbomcdnijklgjaaGreatDoorOFnConfigValuesx9
import Derived.Test.YtbomcdnijklgjaaGreatDoorOFnConfigValuesx10
namespace Go.Proofs.YtbomcdnijklgjaaGreatDoor.PFnConfigValues
open Go.RowKit Go.Proofs.YtbomcdnijklgjaaGreatDoorW.PrintWords Go.Proofs.YtbomcdnijklgjaaGreatDoorW.PrintLast Go.Proofs.YtbomcdnijklgjaaGreatDoorW.PrintMore
attribute [local go_sem] max2_int min2_int max_two min_two max_three min_three max_four min_four   -- for this text's walks alone
set_option linter.unusedVariables false
set_option linter.unusedSimpArgs false

/-! ### laws_FnConfigValues: function 5 -/
mutual
def laws_FnConfigValues.j0 : Nat → List (S50) → ByteArray → ByteArray → Bool → Option (Bool)
  | 0, _, _, _, _ => none
  | k + 1, x0, x1, x2, x30 => if x30 = true then (some true) else ((laws_conf.f k x0).bind fun t187 => (if t187 = true then ((laws_key.f k x1 x2).bind fun t188 => (laws_FnConfigValues.j1 k x0 x1 x2 (!t188))) else (laws_FnConfigValues.j1 k x0 x1 x2 true)))
def laws_FnConfigValues.j1 : Nat → List (S50) → ByteArray → ByteArray → Bool → Option (Bool)
  | 0, _, _, _, _ => none
  | k + 1, x0, x1, x2, x39 => if x39 = true then ((laws_awakeConf.f).bind fun t189 => (some t189)) else ((spec_ConfText.f k x0).bind fun t190 => ((spec_ConfKey.f x1 x2).bind fun t191 => ((spec_ConfValue.f k x0 x1 x2).bind fun t192 => (if t192.toList = ([] : List UInt8) then ((laws_awakeConf.f).bind fun t193 => (some t193)) else ((impl_ConfigStrings.f t190 t191).bind fun bt194 => (if bt194.2 = 0 then ((spec_Split.f k t192).bind fun t198 => ((spec_SameList.f k bt194.1 t198).bind fun t201 => (laws_FnConfigValues.j2 k t190 t191 t192 (!t201)))) else (laws_FnConfigValues.j2 k t190 t191 t192 true)))))))
def laws_FnConfigValues.j2 : Nat → ByteArray → ByteArray → ByteArray → Bool → Option (Bool)
  | 0, _, _, _, _ => none
  | k + 1, x7, x8, x9, x67 => if x67 = true then (some false) else ((spec_TruthOf.f k x9).bind fun bt202 => ((impl_ConfigBool.f x7 x8).bind fun bt204 => (if ((bt204.2 == 0) != bt202.2) = true then (laws_FnConfigValues.j3 k x7 x8 x9 true) else (if bt202.2 = true then (laws_FnConfigValues.j3 k x7 x8 x9 (bt204.1 != bt202.1)) else (laws_FnConfigValues.j3 k x7 x8 x9 false)))))
def laws_FnConfigValues.j3 : Nat → ByteArray → ByteArray → ByteArray → Bool → Option (Bool)
  | 0, _, _, _, _ => none
  | k + 1, x7, x8, x9, x90 => if x90 = true then (some false) else ((spec_IntOf.f k x9).bind fun bt206 => ((impl_ConfigInt.f x7 x8).bind fun bt208 => (if bt206.2 = true then (laws_FnConfigValues.j4 k x9 bt206.2 bt208.2 bt206.1 bt208.1 false) else (laws_FnConfigValues.j4 k x9 bt206.2 bt208.2 bt206.1 bt208.1 (bt208.2 == 0)))))
def laws_FnConfigValues.j4 : Nat → ByteArray → Bool → Int → Int → Int → Bool → Option (Bool)
  | 0, _, _, _, _, _, _ => none
  | k + 1, x9, x13, x15, x16, x17, x107 => if x107 = true then (if (x9.size : Int) > 18 then ((laws_awakeConf.f).bind fun t210 => (some t210)) else (some false)) else (if x13 = true then (if x15 = 0 then (if x17 = x16 then ((laws_awakeConf.f).bind fun t211 => (some t211)) else (some false)) else (some false)) else ((laws_awakeConf.f).bind fun t212 => (some t212)))
end
def laws_FnConfigValues.f (k : Nat) (l0 : List (S50)) (a1 : ByteArray) (a2 : ByteArray) : Option (Bool) := (laws_zzFits15.f k l0).bind fun t186 => (if t186 = true then (if (a1.size : Int) > 2147483647 then (laws_FnConfigValues.j0 k l0 a1 a2 true) else (laws_FnConfigValues.j0 k l0 a1 a2 (decide ((a2.size : Int) > 2147483647)))) else (laws_FnConfigValues.j0 k l0 a1 a2 true))
theorem laws_FnConfigValues.mono_l : ∀ k, (∀ y0 y1 y2 y3, LeO (laws_FnConfigValues.j0 k y0 y1 y2 y3) (laws_FnConfigValues.j0 (k + 1) y0 y1 y2 y3)) ∧ (∀ y0 y1 y2 y3, LeO (laws_FnConfigValues.j1 k y0 y1 y2 y3) (laws_FnConfigValues.j1 (k + 1) y0 y1 y2 y3)) ∧ (∀ y0 y1 y2 y3, LeO (laws_FnConfigValues.j2 k y0 y1 y2 y3) (laws_FnConfigValues.j2 (k + 1) y0 y1 y2 y3)) ∧ (∀ y0 y1 y2 y3, LeO (laws_FnConfigValues.j3 k y0 y1 y2 y3) (laws_FnConfigValues.j3 (k + 1) y0 y1 y2 y3)) ∧ (∀ y0 y1 y2 y3 y4 y5, LeO (laws_FnConfigValues.j4 k y0 y1 y2 y3 y4 y5) (laws_FnConfigValues.j4 (k + 1) y0 y1 y2 y3 y4 y5))
  | 0 => ⟨fun _ _ _ _ r h => by simp [laws_FnConfigValues.j0] at h, fun _ _ _ _ r h => by simp [laws_FnConfigValues.j1] at h, fun _ _ _ _ r h => by simp [laws_FnConfigValues.j2] at h, fun _ _ _ _ r h => by simp [laws_FnConfigValues.j3] at h, fun _ _ _ _ _ _ r h => by simp [laws_FnConfigValues.j4] at h⟩
  | k + 1 => by
    obtain ⟨ih0, ih1, ih2, ih3, ih4⟩ := laws_FnConfigValues.mono_l k
    refine ⟨?_, ?_, ?_, ?_, ?_⟩
    · intro y0 y1 y2 y3
      unfold laws_FnConfigValues.j0
      repeat' first
      | (with_reducible exact ih0 _ _ _ _)
      | (with_reducible exact ih1 _ _ _ _)
      | (with_reducible exact ih2 _ _ _ _)
      | (with_reducible exact ih3 _ _ _ _)
      | (with_reducible exact ih4 _ _ _ _ _ _)
      | (with_reducible exact laws_conf.mono _ _)
      | (with_reducible exact laws_key.mono _ _ _)
      | (with_reducible exact laws_zzFits15.mono _ _)
      | (with_reducible exact spec_ConfText.mono _ _)
      | (with_reducible exact spec_ConfValue.mono _ _ _ _)
      | (with_reducible exact spec_IntOf.mono _ _)
      | (with_reducible exact spec_SameList.mono _ _ _)
      | (with_reducible exact spec_Split.mono _ _)
      | (with_reducible exact spec_TruthOf.mono _ _)
      | (with_reducible exact LeO.refl _)
      | (with_reducible exact LeO.none _)
      | (with_reducible refine LeO.ite ?_ ?_)
      | (with_reducible refine LeO.bind ?_ (fun _ => ?_))
      | exact ih0 _ _ _ _
      | exact ih1 _ _ _ _
      | exact ih2 _ _ _ _
      | exact ih3 _ _ _ _
      | exact ih4 _ _ _ _ _ _
      | exact laws_conf.mono _ _
      | exact laws_key.mono _ _ _
      | exact laws_zzFits15.mono _ _
      | exact spec_ConfText.mono _ _
      | exact spec_ConfValue.mono _ _ _ _
      | exact spec_IntOf.mono _ _
      | exact spec_SameList.mono _ _ _
      | exact spec_Split.mono _ _
      | exact spec_TruthOf.mono _ _
      | exact LeO.none _
      | refine LeO.ite ?_ ?_
      | refine LeO.bind ?_ (fun _ => ?_)
    · intro y0 y1 y2 y3
      unfold laws_FnConfigValues.j1
      repeat' first
      | (with_reducible exact ih0 _ _ _ _)
      | (with_reducible exact ih1 _ _ _ _)
      | (with_reducible exact ih2 _ _ _ _)
      | (with_reducible exact ih3 _ _ _ _)
      | (with_reducible exact ih4 _ _ _ _ _ _)
      | (with_reducible exact laws_conf.mono _ _)
      | (with_reducible exact laws_key.mono _ _ _)
      | (with_reducible exact laws_zzFits15.mono _ _)
      | (with_reducible exact spec_ConfText.mono _ _)
      | (with_reducible exact spec_ConfValue.mono _ _ _ _)
      | (with_reducible exact spec_IntOf.mono _ _)
      | (with_reducible exact spec_SameList.mono _ _ _)
      | (with_reducible exact spec_Split.mono _ _)
      | (with_reducible exact spec_TruthOf.mono _ _)
      | (with_reducible exact LeO.refl _)
      | (with_reducible exact LeO.none _)
      | (with_reducible refine LeO.ite ?_ ?_)
      | (with_reducible refine LeO.bind ?_ (fun _ => ?_))
      | exact ih0 _ _ _ _
      | exact ih1 _ _ _ _
      | exact ih2 _ _ _ _
      | exact ih3 _ _ _ _
      | exact ih4 _ _ _ _ _ _
      | exact laws_conf.mono _ _
      | exact laws_key.mono _ _ _
      | exact laws_zzFits15.mono _ _
      | exact spec_ConfText.mono _ _
      | exact spec_ConfValue.mono _ _ _ _
      | exact spec_IntOf.mono _ _
      | exact spec_SameList.mono _ _ _
      | exact spec_Split.mono _ _
      | exact spec_TruthOf.mono _ _
      | exact LeO.none _
      | refine LeO.ite ?_ ?_
      | refine LeO.bind ?_ (fun _ => ?_)
    · intro y0 y1 y2 y3
      unfold laws_FnConfigValues.j2
      repeat' first
      | (with_reducible exact ih0 _ _ _ _)
      | (with_reducible exact ih1 _ _ _ _)
      | (with_reducible exact ih2 _ _ _ _)
      | (with_reducible exact ih3 _ _ _ _)
      | (with_reducible exact ih4 _ _ _ _ _ _)
      | (with_reducible exact laws_conf.mono _ _)
      | (with_reducible exact laws_key.mono _ _ _)
      | (with_reducible exact laws_zzFits15.mono _ _)
      | (with_reducible exact spec_ConfText.mono _ _)
      | (with_reducible exact spec_ConfValue.mono _ _ _ _)
      | (with_reducible exact spec_IntOf.mono _ _)
      | (with_reducible exact spec_SameList.mono _ _ _)
      | (with_reducible exact spec_Split.mono _ _)
      | (with_reducible exact spec_TruthOf.mono _ _)
      | (with_reducible exact LeO.refl _)
      | (with_reducible exact LeO.none _)
      | (with_reducible refine LeO.ite ?_ ?_)
      | (with_reducible refine LeO.bind ?_ (fun _ => ?_))
      | exact ih0 _ _ _ _
      | exact ih1 _ _ _ _
      | exact ih2 _ _ _ _
      | exact ih3 _ _ _ _
      | exact ih4 _ _ _ _ _ _
      | exact laws_conf.mono _ _
      | exact laws_key.mono _ _ _
      | exact laws_zzFits15.mono _ _
      | exact spec_ConfText.mono _ _
      | exact spec_ConfValue.mono _ _ _ _
      | exact spec_IntOf.mono _ _
      | exact spec_SameList.mono _ _ _
      | exact spec_Split.mono _ _
      | exact spec_TruthOf.mono _ _
      | exact LeO.none _
      | refine LeO.ite ?_ ?_
      | refine LeO.bind ?_ (fun _ => ?_)
    · intro y0 y1 y2 y3
      unfold laws_FnConfigValues.j3
      repeat' first
      | (with_reducible exact ih0 _ _ _ _)
      | (with_reducible exact ih1 _ _ _ _)
      | (with_reducible exact ih2 _ _ _ _)
      | (with_reducible exact ih3 _ _ _ _)
      | (with_reducible exact ih4 _ _ _ _ _ _)
      | (with_reducible exact laws_conf.mono _ _)
      | (with_reducible exact laws_key.mono _ _ _)
      | (with_reducible exact laws_zzFits15.mono _ _)
      | (with_reducible exact spec_ConfText.mono _ _)
      | (with_reducible exact spec_ConfValue.mono _ _ _ _)
      | (with_reducible exact spec_IntOf.mono _ _)
      | (with_reducible exact spec_SameList.mono _ _ _)
      | (with_reducible exact spec_Split.mono _ _)
      | (with_reducible exact spec_TruthOf.mono _ _)
      | (with_reducible exact LeO.refl _)
      | (with_reducible exact LeO.none _)
      | (with_reducible refine LeO.ite ?_ ?_)
      | (with_reducible refine LeO.bind ?_ (fun _ => ?_))
      | exact ih0 _ _ _ _
      | exact ih1 _ _ _ _
      | exact ih2 _ _ _ _
      | exact ih3 _ _ _ _
      | exact ih4 _ _ _ _ _ _
      | exact laws_conf.mono _ _
      | exact laws_key.mono _ _ _
      | exact laws_zzFits15.mono _ _
      | exact spec_ConfText.mono _ _
      | exact spec_ConfValue.mono _ _ _ _
      | exact spec_IntOf.mono _ _
      | exact spec_SameList.mono _ _ _
      | exact spec_Split.mono _ _
      | exact spec_TruthOf.mono _ _
      | exact LeO.none _
      | refine LeO.ite ?_ ?_
      | refine LeO.bind ?_ (fun _ => ?_)
    · intro y0 y1 y2 y3 y4 y5
      unfold laws_FnConfigValues.j4
      repeat' first
      | (with_reducible exact ih0 _ _ _ _)
      | (with_reducible exact ih1 _ _ _ _)
      | (with_reducible exact ih2 _ _ _ _)
      | (with_reducible exact ih3 _ _ _ _)
      | (with_reducible exact ih4 _ _ _ _ _ _)
      | (with_reducible exact laws_conf.mono _ _)
      | (with_reducible exact laws_key.mono _ _ _)
      | (with_reducible exact laws_zzFits15.mono _ _)
      | (with_reducible exact spec_ConfText.mono _ _)
      | (with_reducible exact spec_ConfValue.mono _ _ _ _)
      | (with_reducible exact spec_IntOf.mono _ _)
      | (with_reducible exact spec_SameList.mono _ _ _)
      | (with_reducible exact spec_Split.mono _ _)
      | (with_reducible exact spec_TruthOf.mono _ _)
      | (with_reducible exact LeO.refl _)
      | (with_reducible exact LeO.none _)
      | (with_reducible refine LeO.ite ?_ ?_)
      | (with_reducible refine LeO.bind ?_ (fun _ => ?_))
      | exact ih0 _ _ _ _
      | exact ih1 _ _ _ _
      | exact ih2 _ _ _ _
      | exact ih3 _ _ _ _
      | exact ih4 _ _ _ _ _ _
      | exact laws_conf.mono _ _
      | exact laws_key.mono _ _ _
      | exact laws_zzFits15.mono _ _
      | exact spec_ConfText.mono _ _
      | exact spec_ConfValue.mono _ _ _ _
      | exact spec_IntOf.mono _ _
      | exact spec_SameList.mono _ _ _
      | exact spec_Split.mono _ _
      | exact spec_TruthOf.mono _ _
      | exact LeO.none _
      | refine LeO.ite ?_ ?_
      | refine LeO.bind ?_ (fun _ => ?_)
theorem laws_FnConfigValues.mono : ∀ a0 a1 a2 k, LeO (laws_FnConfigValues.f k a0 a1 a2) (laws_FnConfigValues.f (k + 1) a0 a1 a2) := by
  intro a0 a1 a2 k
  obtain ⟨ih0, ih1, ih2, ih3, ih4⟩ := laws_FnConfigValues.mono_l k
  unfold laws_FnConfigValues.f
  repeat' first
      | (with_reducible exact ih0 _ _ _ _)
      | (with_reducible exact ih1 _ _ _ _)
      | (with_reducible exact ih2 _ _ _ _)
      | (with_reducible exact ih3 _ _ _ _)
      | (with_reducible exact ih4 _ _ _ _ _ _)
      | (with_reducible exact laws_conf.mono _ _)
      | (with_reducible exact laws_key.mono _ _ _)
      | (with_reducible exact laws_zzFits15.mono _ _)
      | (with_reducible exact spec_ConfText.mono _ _)
      | (with_reducible exact spec_ConfValue.mono _ _ _ _)
      | (with_reducible exact spec_IntOf.mono _ _)
      | (with_reducible exact spec_SameList.mono _ _ _)
      | (with_reducible exact spec_Split.mono _ _)
      | (with_reducible exact spec_TruthOf.mono _ _)
      | (with_reducible exact LeO.refl _)
      | (with_reducible exact LeO.none _)
      | (with_reducible refine LeO.ite ?_ ?_)
      | (with_reducible refine LeO.bind ?_ (fun _ => ?_))
      | exact ih0 _ _ _ _
      | exact ih1 _ _ _ _
      | exact ih2 _ _ _ _
      | exact ih3 _ _ _ _
      | exact ih4 _ _ _ _ _ _
      | exact laws_conf.mono _ _
      | exact laws_key.mono _ _ _
      | exact laws_zzFits15.mono _ _
      | exact spec_ConfText.mono _ _
      | exact spec_ConfValue.mono _ _ _ _
      | exact spec_IntOf.mono _ _
      | exact spec_SameList.mono _ _ _
      | exact spec_Split.mono _ _
      | exact spec_TruthOf.mono _ _
      | exact LeO.none _
      | refine LeO.ite ?_ ?_
      | refine LeO.bind ?_ (fun _ => ?_)
set_option maxHeartbeats 8000000 in
set_option maxRecDepth 100000 in
theorem laws_FnConfigValues.calls (k : Nat) (A0 : Option Addr) (c0 : Nat) (l0 : List (S50)) (a1 : ByteArray) (a2 : ByteArray) (r : Bool) (w : World) (hprem : Prem w) (hr0 : Kd.C k50 w A0 l0.length l0) (hc0 : l0.length ≤ c0) (h : laws_FnConfigValues.f k l0 a1 a2 = some r) :
    Calls Tryz.prog 5 #[.slice A0 l0.length c0, .string a1, .string a2] w fun e w' => e = .returned (.bool r) ∧ Below w.heap.size w w' := by
  have HPM := Aside0.mk hprem
  clear hprem
  have HR0 := Aside0.mk hr0
  have HC0 := Aside0.mk hc0
  clear hr0 hc0
  have HB := Aside0.mk (Below.refl w.heap.size w)
  have H : ((laws_zzFits15.f k l0).bind fun t186 => (if t186 = true then (if (a1.size : Int) > 2147483647 then (laws_FnConfigValues.j0 k l0 a1 a2 true) else (laws_FnConfigValues.j0 k l0 a1 a2 (decide ((a2.size : Int) > 2147483647)))) else (laws_FnConfigValues.j0 k l0 a1 a2 true))) = some r := h
  clear h
  have HC4 := Aside0.mk H
  clear H
  go_enter Tryz.func5, Tryz.ntmps5
  go_upto_region 1 with (fail)
  go_cut [30] (fun v30 wc => ∃ (kq : Nat) (x30_3 : Bool), v30 = .bool x30_3 ∧ Aside0 (laws_FnConfigValues.j0 kq l0 a1 a2 x30_3 = some r) ∧ Aside0 (kq ≤ k) ∧ Aside0 (Below w.heap.size w wc))
  case first =>
    have H := HC4.out
    clear HC4
    replace H := Option.bind_eq_some_iff.mp H
    obtain ⟨t186, A50, H⟩ := H
    replace H : (if t186 = true then (if (a1.size : Int) > 2147483647 then (laws_FnConfigValues.j0 k l0 a1 a2 true) else (laws_FnConfigValues.j0 k l0 a1 a2 (decide ((a2.size : Int) > 2147483647)))) else (laws_FnConfigValues.j0 k l0 a1 a2 true)) = some r := H
    have A5 := Aside0.mk A50
    clear A50
    by_cases c6 : t186 = true
    · subst c6
      have H1 : (if (a1.size : Int) > 2147483647 then (laws_FnConfigValues.j0 k l0 a1 a2 true) else (laws_FnConfigValues.j0 k l0 a1 a2 (decide ((a2.size : Int) > 2147483647)))) = some r := by rw [if_pos rfl] at H; exact H
      clear H
      have H := H1
      clear H1
      by_cases c7 : (a1.size : Int) > 2147483647
      · rw [if_pos c7] at H
        have c7b0 : decide (2147483647 < (a1.size : Int)) = true := decide_eq_true c7
        have c7b1 : decide (2147483647 < a1.size) = true := decide_eq_true (by omega)
        clear c7
        (first | rw [c7b0] | (simp only [i64_w, i32_w]; rw [c7b0]) | skip)
        have H' := Aside0.mk H
        clear H
        go_wp2_with (first | ((with_reducible refine gate_callee (f := 6) rfl ?_); refine goesL_ (some 19) rfl rfl Tryz.func6 (by kernel_rfl) rfl #[.slice A0 l0.length c0] rfl (by (try simp only [List.map_toArray, List.map_cons, List.map_nil]); first | done | rfl | (simp only [List.length_drop, List.length_take]; rfl)) ?_; (with_reducible refine (laws_zzFits15.calls k _ _ l0 true _ ?side1 ?side2 A5.out).mono ?_); (case side1 => repeat (first | exact (Kd.C_below HR0.out HB.out) | (with_reducible refine Kd.C_alloc ?_ _) | (with_reducible refine Kd.C_drewN ?_ _) | (with_reducible refine Kd.C_drew ?_))); (case side2 => exact HC0.out); rintro e w8 ⟨rfl, hb⟩; refine ⟨_, rfl, ?_⟩; have n0_ := Aside0.mk (below_step (by repeat (first | (with_reducible first | exact HB.out | apply below_alloc | apply pw_below_drewN | apply below_drew1) | exact HB.out)) hb); clear HB; have HB := n0_; clear n0_; (try clear hb); (try clear hb2); (try clear hk); (try clear hi)))
        go_meet
        case rel => exact ⟨_, (true), (by first | rfl | (simp; done) | (simp [*]; done)), H', ⟨by first | omega | exact Nat.le_refl _⟩, ⟨by repeat (first | (with_reducible first | exact HB.out | apply below_alloc | apply pw_below_drewN | apply below_drew1) | exact HB.out)⟩⟩
      · rw [if_neg c7] at H
        have c7b0 : decide (2147483647 < (a1.size : Int)) = false := decide_eq_false c7
        have c7b1 : decide (2147483647 < a1.size) = false := decide_eq_false (by omega)
        clear c7
        (first | rw [c7b0] | (simp only [i64_w, i32_w]; rw [c7b0]) | skip)
        have H' := Aside0.mk H
        clear H
        go_wp2_with (first | ((with_reducible refine gate_callee (f := 6) rfl ?_); refine goesL_ (some 19) rfl rfl Tryz.func6 (by kernel_rfl) rfl #[.slice A0 l0.length c0] rfl (by (try simp only [List.map_toArray, List.map_cons, List.map_nil]); first | done | rfl | (simp only [List.length_drop, List.length_take]; rfl)) ?_; (with_reducible refine (laws_zzFits15.calls k _ _ l0 true _ ?side1 ?side2 A5.out).mono ?_); (case side1 => repeat (first | exact (Kd.C_below HR0.out HB.out) | (with_reducible refine Kd.C_alloc ?_ _) | (with_reducible refine Kd.C_drewN ?_ _) | (with_reducible refine Kd.C_drew ?_))); (case side2 => exact HC0.out); rintro e w9 ⟨rfl, hb⟩; refine ⟨_, rfl, ?_⟩; have n0_ := Aside0.mk (below_step (by repeat (first | (with_reducible first | exact HB.out | apply below_alloc | apply pw_below_drewN | apply below_drew1) | exact HB.out)) hb); clear HB; have HB := n0_; clear n0_; (try clear hb); (try clear hb2); (try clear hk); (try clear hi)))
        go_meet
        case rel => exact ⟨_, (decide ((a2.size : Int) > 2147483647)), (by first | rfl | (simp; done) | (simp [*]; done)), H', ⟨by first | omega | exact Nat.le_refl _⟩, ⟨by repeat (first | (with_reducible first | exact HB.out | apply below_alloc | apply pw_below_drewN | apply below_drew1) | exact HB.out)⟩⟩
    · replace c6 := Bool.eq_false_iff.mpr c6
      subst c6
      have H1 : (laws_FnConfigValues.j0 k l0 a1 a2 true) = some r := by rw [if_neg (show ¬ (false = true) by decide)] at H; exact H
      clear H
      have H := H1
      clear H1
      have H' := Aside0.mk H
      clear H
      go_wp2_with (first | ((with_reducible refine gate_callee (f := 6) rfl ?_); refine goesL_ (some 19) rfl rfl Tryz.func6 (by kernel_rfl) rfl #[.slice A0 l0.length c0] rfl (by (try simp only [List.map_toArray, List.map_cons, List.map_nil]); first | done | rfl | (simp only [List.length_drop, List.length_take]; rfl)) ?_; (with_reducible refine (laws_zzFits15.calls k _ _ l0 false _ ?side1 ?side2 A5.out).mono ?_); (case side1 => repeat (first | exact (Kd.C_below HR0.out HB.out) | (with_reducible refine Kd.C_alloc ?_ _) | (with_reducible refine Kd.C_drewN ?_ _) | (with_reducible refine Kd.C_drew ?_))); (case side2 => exact HC0.out); rintro e w10 ⟨rfl, hb⟩; refine ⟨_, rfl, ?_⟩; have n0_ := Aside0.mk (below_step (by repeat (first | (with_reducible first | exact HB.out | apply below_alloc | apply pw_below_drewN | apply below_drew1) | exact HB.out)) hb); clear HB; have HB := n0_; clear n0_; (try clear hb); (try clear hb2); (try clear hk); (try clear hi)))
      go_meet
      case rel => exact ⟨_, (true), (by first | rfl | (simp; done) | (simp [*]; done)), H', ⟨by first | omega | exact Nat.le_refl _⟩, ⟨by repeat (first | (with_reducible first | exact HB.out | apply below_alloc | apply pw_below_drewN | apply below_drew1) | exact HB.out)⟩⟩
  case rest =>
    clear HC4
    try clear p2
    try clear c5
    try clear c6
    try clear c7
    try clear c7b0
    try clear c7b1
    obtain ⟨kq, x30_3, rfl, HA, HJ3, HB⟩ := hcut
    cases kq with
    | zero => exact absurd HA.out (by simp [laws_FnConfigValues.j0])
    | succ kj3 =>
      have H := HA.out
      clear HA
      simp only [laws_FnConfigValues.j0] at H
      by_cases c11 : x30_3 = true
      · subst c11
        have H1 : (some true) = some r := by rw [if_pos rfl] at H; exact H
        clear H
        have H := H1
        clear H1
        obtain rfl := Option.some.inj H
        go_wp2
        go_ret
        exact ⟨by first | rfl | (simp [errW_none, errW_some] <;> rfl) | (simp [*, errW_none, errW_some] <;> rfl), by repeat (first | (with_reducible first | exact HB.out | apply below_alloc | apply pw_below_drewN | apply below_drew1) | exact HB.out)⟩
      · replace c11 := Bool.eq_false_iff.mpr c11
        subst c11
        have H1 : ((laws_conf.f kj3 l0).bind fun t187 => (if t187 = true then ((laws_key.f kj3 a1 a2).bind fun t188 => (laws_FnConfigValues.j1 kj3 l0 a1 a2 (!t188))) else (laws_FnConfigValues.j1 kj3 l0 a1 a2 true))) = some r := by rw [if_neg (show ¬ (false = true) by decide)] at H; exact H
        clear H
        have H := H1
        clear H1
        have HC12 := Aside0.mk H
        clear H
        go_upto_region 3 with (fail)
        go_cut [39] (fun v39 wc => ∃ (kq : Nat) (x39_11 : Bool), v39 = .bool x39_11 ∧ Aside0 (laws_FnConfigValues.j1 kq l0 a1 a2 x39_11 = some r) ∧ Aside0 (kq ≤ kj3) ∧ Aside0 (Below w.heap.size w wc))
        case first =>
          have H := HC12.out
          clear HC12
          replace H := Option.bind_eq_some_iff.mp H
          obtain ⟨t187, A130, H⟩ := H
          replace H : (if t187 = true then ((laws_key.f kj3 a1 a2).bind fun t188 => (laws_FnConfigValues.j1 kj3 l0 a1 a2 (!t188))) else (laws_FnConfigValues.j1 kj3 l0 a1 a2 true)) = some r := H
          have A13 := Aside0.mk A130
          clear A130
          by_cases c14 : t187 = true
          · subst c14
            have H1 : ((laws_key.f kj3 a1 a2).bind fun t188 => (laws_FnConfigValues.j1 kj3 l0 a1 a2 (!t188))) = some r := by rw [if_pos rfl] at H; exact H
            clear H
            have H := H1
            clear H1
            replace H := Option.bind_eq_some_iff.mp H
            obtain ⟨t188, A150, H⟩ := H
            replace H : (laws_FnConfigValues.j1 kj3 l0 a1 a2 (!t188)) = some r := H
            have A15 := Aside0.mk A150
            clear A150
            have H' := Aside0.mk H
            clear H
            go_wp2_with (first | ((with_reducible refine gate_callee (f := 7) rfl ?_); refine goesL_ (some 32) rfl rfl Tryz.func7 (by kernel_rfl) rfl #[.slice A0 l0.length c0] rfl (by (try simp only [List.map_toArray, List.map_cons, List.map_nil]); first | done | rfl | (simp only [List.length_drop, List.length_take]; rfl)) ?_; (with_reducible refine (laws_conf.calls kj3 _ _ l0 true _ ?side1 ?side2 A13.out).mono ?_); (case side1 => repeat (first | exact (Kd.C_below HR0.out HB.out) | (with_reducible refine Kd.C_alloc ?_ _) | (with_reducible refine Kd.C_drewN ?_ _) | (with_reducible refine Kd.C_drew ?_))); (case side2 => exact HC0.out); rintro e w16 ⟨rfl, hb⟩; refine ⟨_, rfl, ?_⟩; have n0_ := Aside0.mk (below_step (by repeat (first | (with_reducible first | exact HB.out | apply below_alloc | apply pw_below_drewN | apply below_drew1) | exact HB.out)) hb); clear HB; have HB := n0_; clear n0_; (try clear hb); (try clear hb2); (try clear hk); (try clear hi)) | (go_at_call 8; (with_reducible refine (laws_key.calls kj3 a1 a2 t188 _ A15.out).mono ?_); rintro e w17 ⟨rfl, hb⟩; have n0_ := Aside0.mk (below_step (by repeat (first | (with_reducible first | exact HB.out | apply below_alloc | apply pw_below_drewN | apply below_drew1) | exact HB.out)) hb); clear HB; have HB := n0_; clear n0_; (try clear hb); (try clear hb2); (try clear hk); (try clear hi)))
            go_meet
            case rel => exact ⟨_, (!t188), (by first | rfl | (simp; done) | (simp [*]; done)), H', ⟨by have := HJ3.out; first | omega | exact Nat.le_refl _⟩, ⟨by repeat (first | (with_reducible first | exact HB.out | apply below_alloc | apply pw_below_drewN | apply below_drew1) | exact HB.out)⟩⟩
          · replace c14 := Bool.eq_false_iff.mpr c14
            subst c14
            have H1 : (laws_FnConfigValues.j1 kj3 l0 a1 a2 true) = some r := by rw [if_neg (show ¬ (false = true) by decide)] at H; exact H
            clear H
            have H := H1
            clear H1
            have H' := Aside0.mk H
            clear H
            go_wp2_with (first | ((with_reducible refine gate_callee (f := 7) rfl ?_); refine goesL_ (some 32) rfl rfl Tryz.func7 (by kernel_rfl) rfl #[.slice A0 l0.length c0] rfl (by (try simp only [List.map_toArray, List.map_cons, List.map_nil]); first | done | rfl | (simp only [List.length_drop, List.length_take]; rfl)) ?_; (with_reducible refine (laws_conf.calls kj3 _ _ l0 false _ ?side1 ?side2 A13.out).mono ?_); (case side1 => repeat (first | exact (Kd.C_below HR0.out HB.out) | (with_reducible refine Kd.C_alloc ?_ _) | (with_reducible refine Kd.C_drewN ?_ _) | (with_reducible refine Kd.C_drew ?_))); (case side2 => exact HC0.out); rintro e w18 ⟨rfl, hb⟩; refine ⟨_, rfl, ?_⟩; have n0_ := Aside0.mk (below_step (by repeat (first | (with_reducible first | exact HB.out | apply below_alloc | apply pw_below_drewN | apply below_drew1) | exact HB.out)) hb); clear HB; have HB := n0_; clear n0_; (try clear hb); (try clear hb2); (try clear hk); (try clear hi)))
            go_meet
            case rel => exact ⟨_, (true), (by first | rfl | (simp; done) | (simp [*]; done)), H', ⟨by have := HJ3.out; first | omega | exact Nat.le_refl _⟩, ⟨by repeat (first | (with_reducible first | exact HB.out | apply below_alloc | apply pw_below_drewN | apply below_drew1) | exact HB.out)⟩⟩
        case rest =>
          clear HC12
          try clear c1
          try clear p2
          try clear c5
          try clear c6
          try clear c7
          try clear c7b0
          try clear c7b1
          try clear c11
          try clear c14
          try clear p2
          obtain ⟨kq, x39_11, rfl, HA, HJ11, HB⟩ := hcut
          cases kq with
          | zero => exact absurd HA.out (by simp [laws_FnConfigValues.j1])
          | succ kj11 =>
            have H := HA.out
            clear HA
            simp only [laws_FnConfigValues.j1] at H
            by_cases c19 : x39_11 = true
            · subst c19
              have H1 : ((laws_awakeConf.f).bind fun t189 => (some t189)) = some r := by rw [if_pos rfl] at H; exact H
              clear H
              have H := H1
              clear H1
              replace H := Option.bind_eq_some_iff.mp H
              obtain ⟨t189, A200, H⟩ := H
              replace H : (some t189) = some r := H
              have A20 := Aside0.mk A200
              clear A200
              obtain rfl := Option.some.inj H
              go_wp2_with (first | ((with_reducible refine gate_callee (f := 9) rfl ?_); refine goesL_ (some 40) rfl rfl Tryz.func9 (by kernel_rfl) rfl #[] rfl (by (try simp only [List.map_toArray, List.map_cons, List.map_nil]); first | done | rfl | (simp only [List.length_drop, List.length_take]; rfl)) ?_; (with_reducible refine (laws_awakeConf.calls  t189 _ (by repeat (first | exact HPM.out | exact prem_below HPM.out HB.out | (with_reducible refine prem_below ?_ (Drawn0.below ⟨_, rfl⟩)))) A20.out).mono ?_); rintro e w21 ⟨rfl, hb⟩; refine ⟨_, rfl, ?_⟩; have n0_ := Aside0.mk (below_step (by repeat (first | (with_reducible first | exact HB.out | apply below_alloc | apply pw_below_drewN | apply below_drew1) | exact HB.out)) hb); clear HB; have HB := n0_; clear n0_; (try clear hb); (try clear hb2); (try clear hk); (try clear hi)))
              go_ret
              exact ⟨by first | rfl | (simp [errW_none, errW_some] <;> rfl) | (simp [*, errW_none, errW_some] <;> rfl), by repeat (first | (with_reducible first | exact HB.out | apply below_alloc | apply pw_below_drewN | apply below_drew1) | exact HB.out)⟩
            · replace c19 := Bool.eq_false_iff.mpr c19
              subst c19
              have H1 : ((spec_ConfText.f kj11 l0).bind fun t190 => ((spec_ConfKey.f a1 a2).bind fun t191 => ((spec_ConfValue.f kj11 l0 a1 a2).bind fun t192 => (if t192.toList = ([] : List UInt8) then ((laws_awakeConf.f).bind fun t193 => (some t193)) else ((impl_ConfigStrings.f t190 t191).bind fun bt194 => (if bt194.2 = 0 then ((spec_Split.f kj11 t192).bind fun t198 => ((spec_SameList.f kj11 bt194.1 t198).bind fun t201 => (laws_FnConfigValues.j2 kj11 t190 t191 t192 (!t201)))) else (laws_FnConfigValues.j2 kj11 t190 t191 t192 true))))))) = some r := by rw [if_neg (show ¬ (false = true) by decide)] at H; exact H
              clear H
              have H := H1
              clear H1
              replace H := Option.bind_eq_some_iff.mp H
              obtain ⟨t190, A220, H⟩ := H
              replace H : ((spec_ConfKey.f a1 a2).bind fun t191 => ((spec_ConfValue.f kj11 l0 a1 a2).bind fun t192 => (if t192.toList = ([] : List UInt8) then ((laws_awakeConf.f).bind fun t193 => (some t193)) else ((impl_ConfigStrings.f t190 t191).bind fun bt194 => (if bt194.2 = 0 then ((spec_Split.f kj11 t192).bind fun t198 => ((spec_SameList.f kj11 bt194.1 t198).bind fun t201 => (laws_FnConfigValues.j2 kj11 t190 t191 t192 (!t201)))) else (laws_FnConfigValues.j2 kj11 t190 t191 t192 true)))))) = some r := H
              have A22 := Aside0.mk A220
              clear A220
              replace H := Option.bind_eq_some_iff.mp H
              obtain ⟨t191, A230, H⟩ := H
              replace H : ((spec_ConfValue.f kj11 l0 a1 a2).bind fun t192 => (if t192.toList = ([] : List UInt8) then ((laws_awakeConf.f).bind fun t193 => (some t193)) else ((impl_ConfigStrings.f t190 t191).bind fun bt194 => (if bt194.2 = 0 then ((spec_Split.f kj11 t192).bind fun t198 => ((spec_SameList.f kj11 bt194.1 t198).bind fun t201 => (laws_FnConfigValues.j2 kj11 t190 t191 t192 (!t201)))) else (laws_FnConfigValues.j2 kj11 t190 t191 t192 true))))) = some r := H
              have A23 := Aside0.mk A230
              clear A230
              replace H := Option.bind_eq_some_iff.mp H
              obtain ⟨t192, A240, H⟩ := H
              replace H : (if t192.toList = ([] : List UInt8) then ((laws_awakeConf.f).bind fun t193 => (some t193)) else ((impl_ConfigStrings.f t190 t191).bind fun bt194 => (if bt194.2 = 0 then ((spec_Split.f kj11 t192).bind fun t198 => ((spec_SameList.f kj11 bt194.1 t198).bind fun t201 => (laws_FnConfigValues.j2 kj11 t190 t191 t192 (!t201)))) else (laws_FnConfigValues.j2 kj11 t190 t191 t192 true)))) = some r := H
              have A24 := Aside0.mk A240
              clear A240
              by_cases c25 : t192.toList = ([] : List UInt8)
              · rw [if_pos c25] at H
                have c25b0 : (t192.toList == ([] : List UInt8)) = true := beq_iff_eq.mpr c25
                have c25b9 : t192.toList.isEmpty = true := by rw [c25]; rfl
                have c25b1 : (t192.toList != ([] : List UInt8)) = false := bne_eq_false_iff_eq.mpr c25
                clear c25
                replace H := Option.bind_eq_some_iff.mp H
                obtain ⟨t193, A260, H⟩ := H
                replace H : (some t193) = some r := H
                have A26 := Aside0.mk A260
                clear A260
                obtain rfl := Option.some.inj H
                go_wp2_with (first | ((with_reducible refine gate_callee (f := 11) rfl ?_); refine goesL_ (some 42) rfl rfl Tryz.func11 (by kernel_rfl) rfl #[.slice A0 l0.length c0] rfl (by (try simp only [List.map_toArray, List.map_cons, List.map_nil]); first | done | rfl | (simp only [List.length_drop, List.length_take]; rfl)) ?_; (with_reducible refine (spec_ConfText.calls kj11 _ _ l0 t190 _ ?side1 ?side2 A22.out).mono ?_); (case side1 => repeat (first | exact (Kd.C_below HR0.out HB.out) | (with_reducible refine Kd.C_alloc ?_ _) | (with_reducible refine Kd.C_drewN ?_ _) | (with_reducible refine Kd.C_drew ?_))); (case side2 => exact HC0.out); rintro e w' ⟨rfl, ⟨nd, rfl⟩⟩; refine ⟨_, rfl, ?_⟩) | ((with_reducible refine gate_callee (f := 12) rfl ?_); refine goesL_ (some 45) rfl rfl Tryz.func12 (by kernel_rfl) rfl #[.string a1, .string a2] rfl (by (try simp only [List.map_toArray, List.map_cons, List.map_nil]); first | done | rfl | (simp only [List.length_drop, List.length_take]; rfl)) ?_; (with_reducible refine (spec_ConfKey.calls a1 a2 t191 _ A23.out).mono ?_); rintro e w' ⟨rfl, ⟨nd, rfl⟩⟩; refine ⟨_, rfl, ?_⟩) | ((with_reducible refine gate_callee (f := 13) rfl ?_); refine goesL_ (some 49) rfl rfl Tryz.func13 (by kernel_rfl) rfl #[.slice A0 l0.length c0, .string a1, .string a2] rfl (by (try simp only [List.map_toArray, List.map_cons, List.map_nil]); first | done | rfl | (simp only [List.length_drop, List.length_take]; rfl)) ?_; (with_reducible refine (spec_ConfValue.calls kj11 _ _ l0 a1 a2 t192 _ ?side1 ?side2 A24.out).mono ?_); (case side1 => repeat (first | exact (Kd.C_below HR0.out (by repeat (first | (with_reducible first | exact HB.out | apply below_alloc | apply pw_below_drewN | apply below_drew1) | exact HB.out))) | (with_reducible refine Kd.C_alloc ?_ _) | (with_reducible refine Kd.C_drewN ?_ _) | (with_reducible refine Kd.C_drew ?_))); (case side2 => exact HC0.out); rintro e w' ⟨rfl, ⟨nd, rfl⟩⟩; refine ⟨_, rfl, ?_⟩) | ((with_reducible refine gate_callee (f := 9) rfl ?_); refine goesL_ (some 52) rfl rfl Tryz.func9 (by kernel_rfl) rfl #[] rfl (by (try simp only [List.map_toArray, List.map_cons, List.map_nil]); first | done | rfl | (simp only [List.length_drop, List.length_take]; rfl)) ?_; (with_reducible refine (laws_awakeConf.calls  t193 _ (by repeat (first | exact HPM.out | exact prem_below HPM.out HB.out | (with_reducible refine prem_below ?_ (Drawn0.below ⟨_, rfl⟩)))) A26.out).mono ?_); rintro e w27 ⟨rfl, hb⟩; refine ⟨_, rfl, ?_⟩; have n0_ := Aside0.mk (below_step (by repeat (first | (with_reducible first | exact HB.out | apply below_alloc | apply pw_below_drewN | apply below_drew1) | exact HB.out)) hb); clear HB; have HB := n0_; clear n0_; (try clear hb); (try clear hb2); (try clear hk); (try clear hi)))
                go_ret
                exact ⟨by first | rfl | (simp [errW_none, errW_some] <;> rfl) | (simp [*, errW_none, errW_some] <;> rfl), by repeat (first | (with_reducible first | exact HB.out | apply below_alloc | apply pw_below_drewN | apply below_drew1) | exact HB.out)⟩
              · rw [if_neg c25] at H
                have c25b0 : (t192.toList == ([] : List UInt8)) = false := beq_eq_false_iff_ne.mpr c25
                have c25b9 : t192.toList.isEmpty = false := isEmpty_no_ c25
                have c25b1 : (t192.toList != ([] : List UInt8)) = true := bne_iff_ne.mpr c25
                replace H := Option.bind_eq_some_iff.mp H
                obtain ⟨⟨t194, t195⟩, A280, H⟩ := H
                replace H : (if t195 = 0 then ((spec_Split.f kj11 t192).bind fun t198 => ((spec_SameList.f kj11 t194 t198).bind fun t201 => (laws_FnConfigValues.j2 kj11 t190 t191 t192 (!t201)))) else (laws_FnConfigValues.j2 kj11 t190 t191 t192 true)) = some r := H
                have A28 := Aside0.mk A280
                clear A280
                have HC29 := Aside0.mk H
                clear H
                go_upto_region 9 with (first | ((with_reducible refine gate_callee (f := 11) rfl ?_); refine goesL_ (some 42) rfl rfl Tryz.func11 (by kernel_rfl) rfl #[.slice A0 l0.length c0] rfl (by (try simp only [List.map_toArray, List.map_cons, List.map_nil]); first | done | rfl | (simp only [List.length_drop, List.length_take]; rfl)) ?_; (with_reducible refine (spec_ConfText.calls kj11 _ _ l0 t190 _ ?side1 ?side2 A22.out).mono ?_); (case side1 => repeat (first | exact (Kd.C_below HR0.out HB.out) | (with_reducible refine Kd.C_alloc ?_ _) | (with_reducible refine Kd.C_drewN ?_ _) | (with_reducible refine Kd.C_drew ?_))); (case side2 => exact HC0.out); rintro e w' ⟨rfl, ⟨nd, rfl⟩⟩; refine ⟨_, rfl, ?_⟩) | ((with_reducible refine gate_callee (f := 12) rfl ?_); refine goesL_ (some 45) rfl rfl Tryz.func12 (by kernel_rfl) rfl #[.string a1, .string a2] rfl (by (try simp only [List.map_toArray, List.map_cons, List.map_nil]); first | done | rfl | (simp only [List.length_drop, List.length_take]; rfl)) ?_; (with_reducible refine (spec_ConfKey.calls a1 a2 t191 _ A23.out).mono ?_); rintro e w' ⟨rfl, ⟨nd, rfl⟩⟩; refine ⟨_, rfl, ?_⟩) | ((with_reducible refine gate_callee (f := 13) rfl ?_); refine goesL_ (some 49) rfl rfl Tryz.func13 (by kernel_rfl) rfl #[.slice A0 l0.length c0, .string a1, .string a2] rfl (by (try simp only [List.map_toArray, List.map_cons, List.map_nil]); first | done | rfl | (simp only [List.length_drop, List.length_take]; rfl)) ?_; (with_reducible refine (spec_ConfValue.calls kj11 _ _ l0 a1 a2 t192 _ ?side1 ?side2 A24.out).mono ?_); (case side1 => repeat (first | exact (Kd.C_below HR0.out (by repeat (first | (with_reducible first | exact HB.out | apply below_alloc | apply pw_below_drewN | apply below_drew1) | exact HB.out))) | (with_reducible refine Kd.C_alloc ?_ _) | (with_reducible refine Kd.C_drewN ?_ _) | (with_reducible refine Kd.C_drew ?_))); (case side2 => exact HC0.out); rintro e w' ⟨rfl, ⟨nd, rfl⟩⟩; refine ⟨_, rfl, ?_⟩) | ((with_reducible refine gate_callee (f := 16) rfl ?_); refine goesL_ (some 56) rfl rfl Tryz.func16 (by kernel_rfl) rfl #[.string t190, .string t191] rfl (by (try simp only [List.map_toArray, List.map_cons, List.map_nil]); first | done | rfl | (simp only [List.length_drop, List.length_take]; rfl)) ?_; (with_reducible refine (impl_ConfigStrings.calls t190 t191 t194 t195 _ (by repeat (first | exact HPM.out | exact prem_below HPM.out HB.out | (with_reducible refine prem_below ?_ (Drawn0.below ⟨_, rfl⟩)))) A28.out).mono ?_); rintro e w30 ⟨v196, rfl, ho0, hb⟩; refine ⟨_, rfl, ?_⟩; have n0_ := Aside0.mk (Kd.R_lower ho0 (below_size (by repeat (first | (with_reducible first | exact HB.out | apply below_alloc | apply pw_below_drewN | apply below_drew1) | exact HB.out)))); have n1_ := Aside0.mk (below_step (by repeat (first | (with_reducible first | exact HB.out | apply below_alloc | apply pw_below_drewN | apply below_drew1) | exact HB.out)) hb); clear HB; have HO197 := n0_; have HB := n1_; clear n0_ n1_; (try clear hb); (try clear hb2); (try clear hk); (try clear hi); (try clear ho0)))
                (try simp only [Act.put, List.setIfInBounds_toArray, List.set_cons_zero, List.set_cons_succ])
                go_cut [67] (fun v67 wc => ∃ (kq : Nat) (x67_28 : Bool), v67 = .bool x67_28 ∧ Aside0 (laws_FnConfigValues.j2 kq t190 t191 t192 x67_28 = some r) ∧ Aside0 (kq ≤ kj11) ∧ Aside0 (Below w.heap.size w wc))
                case first =>
                  have H := HC29.out
                  clear HC29
                  by_cases c31 : t195 = 0
                  · rw [if_pos c31] at H
                    have c31b0 : (t195 == 0) = true := beq_iff_eq.mpr c31
                    have c31b1 : (t195 != 0) = false := bne_eq_false_iff_eq.mpr c31
                    clear c31
                    (first | rw [c31b0] | (simp only [i64_w, i32_w]; rw [c31b0]) | skip)
                    replace H := Option.bind_eq_some_iff.mp H
                    obtain ⟨t198, A320, H⟩ := H
                    replace H : ((spec_SameList.f kj11 t194 t198).bind fun t201 => (laws_FnConfigValues.j2 kj11 t190 t191 t192 (!t201))) = some r := H
                    have A32 := Aside0.mk A320
                    clear A320
                    replace H := Option.bind_eq_some_iff.mp H
                    obtain ⟨t201, A330, H⟩ := H
                    replace H : (laws_FnConfigValues.j2 kj11 t190 t191 t192 (!t201)) = some r := H
                    have A33 := Aside0.mk A330
                    clear A330
                    have H' := Aside0.mk H
                    clear H
                    go_wp2_with (first | (go_at_call 18; (with_reducible refine (spec_Split.calls kj11 t192 t198 _ A32.out).mono ?_); rintro e w34 ⟨v199, rfl, ho0, hb⟩; have n0_ := Aside0.mk (Kd.R_elder' (by (with_reducible repeat (first | apply Kd.R_alloc | apply Kd.R_drewN | apply Kd.R_drew)); exact HO197.out) (Kd.R_base ho0) hb); have n1_ := Aside0.mk (Kd.R_lower (Kd.R_new' ho0 (Kd.R_lt (by (with_reducible repeat (first | apply Kd.R_alloc | apply Kd.R_drewN | apply Kd.R_drew)); exact HO197.out))) (below_size (by repeat (first | (with_reducible first | exact HB.out | apply below_alloc | apply pw_below_drewN | apply below_drew1) | exact HB.out)))); have n2_ := Aside0.mk (below_step (by repeat (first | (with_reducible first | exact HB.out | apply below_alloc | apply pw_below_drewN | apply below_drew1) | exact HB.out)) hb); clear HO197; clear HB; have HO197 := n0_; have HO200 := n1_; have HB := n2_; clear n0_ n1_ n2_; (try clear hb); (try clear hb2); (try clear hk); (try clear hi); (try clear ho0); obtain ⟨Ao35, co35, eo35⟩ := Kd.R_slice HO197.out; subst eo35; obtain ⟨Ao36, co36, eo36⟩ := Kd.R_slice HO200.out; subst eo36) | (go_at_call 17; (with_reducible refine (spec_SameList.calls kj11 _ _ t194 _ _ t198 t201 _ ?side1 ?side2 ?side3 ?side4 A33.out).mono ?_); (case side1 => repeat (first | exact (Kd.R_reads' HO197.out).2.2 | (with_reducible refine Kd.C_alloc ?_ _) | (with_reducible refine Kd.C_drewN ?_ _) | (with_reducible refine Kd.C_drew ?_))); (case side2 => exact (Kd.R_reads' HO197.out).2.1); (case side3 => repeat (first | exact (Kd.R_reads' HO200.out).2.2 | (with_reducible refine Kd.C_alloc ?_ _) | (with_reducible refine Kd.C_drewN ?_ _) | (with_reducible refine Kd.C_drew ?_))); (case side4 => exact (Kd.R_reads' HO200.out).2.1); rintro e w' ⟨rfl, ⟨nd, rfl⟩⟩))
                    go_meet
                    case rel => exact ⟨_, (!t201), (by first | rfl | (simp; done) | (simp [*]; done)), H', ⟨by have := HJ3.out; have := HJ11.out; first | omega | exact Nat.le_refl _⟩, ⟨by repeat (first | (with_reducible first | exact HB.out | apply below_alloc | apply pw_below_drewN | apply below_drew1) | exact HB.out)⟩⟩
                  · rw [if_neg c31] at H
                    have c31b0 : (t195 == 0) = false := beq_eq_false_iff_ne.mpr c31
                    have c31b1 : (t195 != 0) = true := bne_iff_ne.mpr c31
                    (first | rw [c31b0] | (simp only [i64_w, i32_w]; rw [c31b0]) | skip)
                    have H' := Aside0.mk H
                    clear H
                    go_wp2
                    go_meet
                    case rel => exact ⟨_, (true), (by first | rfl | (simp; done) | (simp [*]; done)), H', ⟨by have := HJ3.out; have := HJ11.out; first | omega | exact Nat.le_refl _⟩, ⟨by repeat (first | (with_reducible first | exact HB.out | apply below_alloc | apply pw_below_drewN | apply below_drew1) | exact HB.out)⟩⟩
                case rest =>
                  clear HC29
                  try clear c1
                  try clear c2
                  try clear p2
                  try clear c3
                  try clear c5
                  try clear c6
                  try clear c7
                  try clear c7b0
                  try clear c7b1
                  try clear c9
                  try clear c11
                  try clear c12
                  try clear c13
                  try clear c14
                  try clear c16
                  try clear c19
                  try clear c25
                  try clear c25b0
                  try clear c25b1
                  try clear c31
                  try clear c31b0
                  try clear c31b1
                  try clear p2
                  obtain ⟨kq, x67_28, rfl, HA, HJ28, HB⟩ := hcut
                  cases kq with
                  | zero => exact absurd HA.out (by simp [laws_FnConfigValues.j2])
                  | succ kj28 =>
                    have H := HA.out
                    clear HA
                    simp only [laws_FnConfigValues.j2] at H
                    by_cases c37 : x67_28 = true
                    · subst c37
                      have H1 : (some false) = some r := by rw [if_pos rfl] at H; exact H
                      clear H
                      have H := H1
                      clear H1
                      obtain rfl := Option.some.inj H
                      go_wp2
                      go_ret
                      exact ⟨by first | rfl | (simp [errW_none, errW_some] <;> rfl) | (simp [*, errW_none, errW_some] <;> rfl), by repeat (first | (with_reducible first | exact HB.out | apply below_alloc | apply pw_below_drewN | apply below_drew1) | exact HB.out)⟩
                    · replace c37 := Bool.eq_false_iff.mpr c37
                      subst c37
                      have H1 : ((spec_TruthOf.f kj28 t192).bind fun bt202 => ((impl_ConfigBool.f t190 t191).bind fun bt204 => (if ((bt204.2 == 0) != bt202.2) = true then (laws_FnConfigValues.j3 kj28 t190 t191 t192 true) else (if bt202.2 = true then (laws_FnConfigValues.j3 kj28 t190 t191 t192 (bt204.1 != bt202.1)) else (laws_FnConfigValues.j3 kj28 t190 t191 t192 false))))) = some r := by rw [if_neg (show ¬ (false = true) by decide)] at H; exact H
                      clear H
                      have H := H1
                      clear H1
                      replace H := Option.bind_eq_some_iff.mp H
                      obtain ⟨⟨t202, t203⟩, A380, H⟩ := H
                      replace H : ((impl_ConfigBool.f t190 t191).bind fun bt204 => (if ((bt204.2 == 0) != t203) = true then (laws_FnConfigValues.j3 kj28 t190 t191 t192 true) else (if t203 = true then (laws_FnConfigValues.j3 kj28 t190 t191 t192 (bt204.1 != t202)) else (laws_FnConfigValues.j3 kj28 t190 t191 t192 false)))) = some r := H
                      have A38 := Aside0.mk A380
                      clear A380
                      replace H := Option.bind_eq_some_iff.mp H
                      obtain ⟨⟨t204, t205⟩, A390, H⟩ := H
                      replace H : (if ((t205 == 0) != t203) = true then (laws_FnConfigValues.j3 kj28 t190 t191 t192 true) else (if t203 = true then (laws_FnConfigValues.j3 kj28 t190 t191 t192 (t204 != t202)) else (laws_FnConfigValues.j3 kj28 t190 t191 t192 false))) = some r := H
                      have A39 := Aside0.mk A390
                      clear A390
                      have HC40 := Aside0.mk H
                      clear H
                      go_upto_region 13 with (first | ((with_reducible refine gate_callee (f := 19) rfl ?_); refine goesL_ (some 70) rfl rfl Tryz.func19 (by kernel_rfl) rfl #[.string t192] rfl (by (try simp only [List.map_toArray, List.map_cons, List.map_nil]); first | done | rfl | (simp only [List.length_drop, List.length_take]; rfl)) ?_; (with_reducible refine (spec_TruthOf.calls kj28 t192 t202 t203 _ A38.out).mono ?_); rintro e w' ⟨rfl, ⟨nd, rfl⟩⟩; refine ⟨_, rfl, ?_⟩) | ((with_reducible refine gate_callee (f := 20) rfl ?_); refine goesL_ (some 76) rfl rfl Tryz.func20 (by kernel_rfl) rfl #[.string t190, .string t191] rfl (by (try simp only [List.map_toArray, List.map_cons, List.map_nil]); first | done | rfl | (simp only [List.length_drop, List.length_take]; rfl)) ?_; (with_reducible refine (impl_ConfigBool.calls t190 t191 t204 t205 _ (by repeat (first | exact HPM.out | exact prem_below HPM.out HB.out | (with_reducible refine prem_below ?_ (Drawn0.below ⟨_, rfl⟩)))) A39.out).mono ?_); rintro e w41 ⟨rfl, hb⟩; refine ⟨_, rfl, ?_⟩; have n0_ := Aside0.mk (below_step (by repeat (first | (with_reducible first | exact HB.out | apply below_alloc | apply pw_below_drewN | apply below_drew1) | exact HB.out)) hb); clear HB; have HB := n0_; clear n0_; (try clear hb); (try clear hb2); (try clear hk); (try clear hi)))
                      (try simp only [Act.put, List.setIfInBounds_toArray, List.set_cons_zero, List.set_cons_succ])
                      go_cut [90] (fun v90 wc => ∃ (kq : Nat) (x90_39 : Bool), v90 = .bool x90_39 ∧ Aside0 (laws_FnConfigValues.j3 kq t190 t191 t192 x90_39 = some r) ∧ Aside0 (kq ≤ kj28) ∧ Aside0 (Below w.heap.size w wc))
                      case first =>
                        have H := HC40.out
                        clear HC40
                        by_cases c42 : ((t205 == 0) != t203) = true
                        · rw [if_pos c42] at H
                          have c42b0 : ((t205 == 0) != t203) = true := c42
                          (try (have c42b1 : decide ((t205 == 0) = t203) = false := by simpa using c42))
                          (try (have c42b2 : ((t205 == 0) == t203) = false := by simpa using c42))
                          (try (have c42b3 : ¬ ((t205 == 0) = t203) := by simpa using c42))
                          clear c42
                          (first | rw [c42b0] | (simp only [i64_w, i32_w]; rw [c42b0]) | skip)
                          have H' := Aside0.mk H
                          clear H
                          go_wp2
                          go_meet
                          case rel => exact ⟨_, (true), (by first | rfl | (simp; done) | (simp [*]; done)), H', ⟨by have := HJ3.out; have := HJ11.out; have := HJ28.out; first | omega | exact Nat.le_refl _⟩, ⟨by repeat (first | (with_reducible first | exact HB.out | apply below_alloc | apply pw_below_drewN | apply below_drew1) | exact HB.out)⟩⟩
                        · rw [if_neg c42] at H
                          have c42b0 : ((t205 == 0) != t203) = false := by simpa using c42
                          (try (have c42b1 : decide ((t205 == 0) = t203) = true := by simpa using c42))
                          (try (have c42b2 : ((t205 == 0) == t203) = true := by simpa using c42))
                          clear c42
                          (first | rw [c42b0] | (simp only [i64_w, i32_w]; rw [c42b0]) | skip)
                          by_cases c43 : t203 = true
                          · subst c43
                            have H1 : (laws_FnConfigValues.j3 kj28 t190 t191 t192 (t204 != t202)) = some r := by rw [if_pos rfl] at H; exact H
                            clear H
                            have H := H1
                            clear H1
                            have H' := Aside0.mk H
                            clear H
                            go_wp2
                            go_meet
                            case rel => exact ⟨_, ((t204 != t202)), (by first | rfl | (simp; done) | (simp [*]; done)), H', ⟨by have := HJ3.out; have := HJ11.out; have := HJ28.out; first | omega | exact Nat.le_refl _⟩, ⟨by repeat (first | (with_reducible first | exact HB.out | apply below_alloc | apply pw_below_drewN | apply below_drew1) | exact HB.out)⟩⟩
                          · replace c43 := Bool.eq_false_iff.mpr c43
                            subst c43
                            have H1 : (laws_FnConfigValues.j3 kj28 t190 t191 t192 false) = some r := by rw [if_neg (show ¬ (false = true) by decide)] at H; exact H
                            clear H
                            have H := H1
                            clear H1
                            have H' := Aside0.mk H
                            clear H
                            go_wp2
                            go_meet
                            case rel => exact ⟨_, (false), (by first | rfl | (simp; done) | (simp [*]; done)), H', ⟨by have := HJ3.out; have := HJ11.out; have := HJ28.out; first | omega | exact Nat.le_refl _⟩, ⟨by repeat (first | (with_reducible first | exact HB.out | apply below_alloc | apply pw_below_drewN | apply below_drew1) | exact HB.out)⟩⟩
                      case rest =>
                        clear HC40
                        try clear c1
                        try clear c2
                        try clear p2
                        try clear c3
                        try clear c4
                        try clear c5
                        try clear c6
                        try clear c7
                        try clear c7b0
                        try clear c7b1
                        try clear c9
                        try clear c11
                        try clear c12
                        try clear c13
                        try clear c14
                        try clear c16
                        try clear c19
                        try clear c20
                        try clear c25
                        try clear c25b0
                        try clear c25b1
                        try clear c31
                        try clear c31b0
                        try clear c31b1
                        try clear c37
                        try clear c42
                        try clear c42b0
                        try clear c42b1
                        try clear c42b2
                        try clear c43
                        try clear p2
                        obtain ⟨kq, x90_39, rfl, HA, HJ39, HB⟩ := hcut
                        cases kq with
                        | zero => exact absurd HA.out (by simp [laws_FnConfigValues.j3])
                        | succ kj39 =>
                          have H := HA.out
                          clear HA
                          simp only [laws_FnConfigValues.j3] at H
                          by_cases c44 : x90_39 = true
                          · subst c44
                            have H1 : (some false) = some r := by rw [if_pos rfl] at H; exact H
                            clear H
                            have H := H1
                            clear H1
                            obtain rfl := Option.some.inj H
                            go_wp2
                            go_ret
                            exact ⟨by first | rfl | (simp [errW_none, errW_some] <;> rfl) | (simp [*, errW_none, errW_some] <;> rfl), by repeat (first | (with_reducible first | exact HB.out | apply below_alloc | apply pw_below_drewN | apply below_drew1) | exact HB.out)⟩
                          · replace c44 := Bool.eq_false_iff.mpr c44
                            subst c44
                            have H1 : ((spec_IntOf.f kj39 t192).bind fun bt206 => ((impl_ConfigInt.f t190 t191).bind fun bt208 => (if bt206.2 = true then (laws_FnConfigValues.j4 kj39 t192 bt206.2 bt208.2 bt206.1 bt208.1 false) else (laws_FnConfigValues.j4 kj39 t192 bt206.2 bt208.2 bt206.1 bt208.1 (bt208.2 == 0))))) = some r := by rw [if_neg (show ¬ (false = true) by decide)] at H; exact H
                            clear H
                            have H := H1
                            clear H1
                            replace H := Option.bind_eq_some_iff.mp H
                            obtain ⟨⟨t206, t207⟩, A450, H⟩ := H
                            replace H : ((impl_ConfigInt.f t190 t191).bind fun bt208 => (if t207 = true then (laws_FnConfigValues.j4 kj39 t192 t207 bt208.2 t206 bt208.1 false) else (laws_FnConfigValues.j4 kj39 t192 t207 bt208.2 t206 bt208.1 (bt208.2 == 0)))) = some r := H
                            have A45 := Aside0.mk A450
                            clear A450
                            replace H := Option.bind_eq_some_iff.mp H
                            obtain ⟨⟨t208, t209⟩, A460, H⟩ := H
                            replace H : (if t207 = true then (laws_FnConfigValues.j4 kj39 t192 t207 t209 t206 t208 false) else (laws_FnConfigValues.j4 kj39 t192 t207 t209 t206 t208 (t209 == 0))) = some r := H
                            have A46 := Aside0.mk A460
                            clear A460
                            have HC47 := Aside0.mk H
                            clear H
                            go_upto_region 17 with (first | ((with_reducible refine gate_callee (f := 21) rfl ?_); refine goesL_ (some 93) rfl rfl Tryz.func21 (by kernel_rfl) rfl #[.string t192] rfl (by (try simp only [List.map_toArray, List.map_cons, List.map_nil]); first | done | rfl | (simp only [List.length_drop, List.length_take]; rfl)) ?_; (with_reducible refine (spec_IntOf.calls kj39 t192 t206 t207 _ A45.out).mono ?_); rintro e w' ⟨rfl, ⟨nd, rfl⟩⟩; refine ⟨_, rfl, ?_⟩) | ((with_reducible refine gate_callee (f := 22) rfl ?_); refine goesL_ (some 99) rfl rfl Tryz.func22 (by kernel_rfl) rfl #[.string t190, .string t191] rfl (by (try simp only [List.map_toArray, List.map_cons, List.map_nil]); first | done | rfl | (simp only [List.length_drop, List.length_take]; rfl)) ?_; (with_reducible refine (impl_ConfigInt.calls t190 t191 t208 t209 _ (by repeat (first | exact HPM.out | exact prem_below HPM.out HB.out | (with_reducible refine prem_below ?_ (Drawn0.below ⟨_, rfl⟩)))) A46.out).mono ?_); rintro e w48 ⟨rfl, hb⟩; refine ⟨_, rfl, ?_⟩; have n0_ := Aside0.mk (below_step (by repeat (first | (with_reducible first | exact HB.out | apply below_alloc | apply pw_below_drewN | apply below_drew1) | exact HB.out)) hb); clear HB; have HB := n0_; clear n0_; (try clear hb); (try clear hb2); (try clear hk); (try clear hi)))
                            (try simp only [Act.put, List.setIfInBounds_toArray, List.set_cons_zero, List.set_cons_succ])
                            go_cut [107] (fun v107 wc => ∃ (kq : Nat) (x107_46 : Bool), v107 = .bool x107_46 ∧ Aside0 (laws_FnConfigValues.j4 kq t192 t207 t209 t206 t208 x107_46 = some r) ∧ Aside0 (kq ≤ kj39) ∧ Aside0 (Below w.heap.size w wc))
                            case first =>
                              have H := HC47.out
                              clear HC47
                              by_cases c49 : t207 = true
                              · subst c49
                                have H1 : (laws_FnConfigValues.j4 kj39 t192 true t209 t206 t208 false) = some r := by rw [if_pos rfl] at H; exact H
                                clear H
                                have H := H1
                                clear H1
                                have H' := Aside0.mk H
                                clear H
                                go_wp2
                                go_meet
                                case rel => exact ⟨_, (false), (by first | rfl | (simp; done) | (simp [*]; done)), H', ⟨by have := HJ3.out; have := HJ11.out; have := HJ28.out; have := HJ39.out; first | omega | exact Nat.le_refl _⟩, ⟨by repeat (first | (with_reducible first | exact HB.out | apply below_alloc | apply pw_below_drewN | apply below_drew1) | exact HB.out)⟩⟩
                              · replace c49 := Bool.eq_false_iff.mpr c49
                                subst c49
                                have H1 : (laws_FnConfigValues.j4 kj39 t192 false t209 t206 t208 (t209 == 0)) = some r := by rw [if_neg (show ¬ (false = true) by decide)] at H; exact H
                                clear H
                                have H := H1
                                clear H1
                                have H' := Aside0.mk H
                                clear H
                                go_wp2
                                go_meet
                                case rel => exact ⟨_, ((t209 == 0)), (by first | rfl | (simp; done) | (simp [*]; done)), H', ⟨by have := HJ3.out; have := HJ11.out; have := HJ28.out; have := HJ39.out; first | omega | exact Nat.le_refl _⟩, ⟨by repeat (first | (with_reducible first | exact HB.out | apply below_alloc | apply pw_below_drewN | apply below_drew1) | exact HB.out)⟩⟩
                            case rest =>
                              clear HC47
                              try clear c1
                              try clear c2
                              try clear p2
                              try clear c3
                              try clear c4
                              try clear c5
                              try clear c6
                              try clear c7
                              try clear c7b0
                              try clear c7b1
                              try clear c9
                              try clear c11
                              try clear c12
                              try clear c13
                              try clear c14
                              try clear c16
                              try clear c19
                              try clear c20
                              try clear c21
                              try clear c22
                              try clear c25
                              try clear c25b0
                              try clear c25b1
                              try clear c31
                              try clear c31b0
                              try clear c31b1
                              try clear c37
                              try clear c42
                              try clear c42b0
                              try clear c42b1
                              try clear c42b2
                              try clear c43
                              try clear c44
                              try clear c49
                              try clear p2
                              obtain ⟨kq, x107_46, rfl, HA, HJ46, HB⟩ := hcut
                              cases kq with
                              | zero => exact absurd HA.out (by simp [laws_FnConfigValues.j4])
                              | succ kj46 =>
                                have H := HA.out
                                clear HA
                                simp only [laws_FnConfigValues.j4] at H
                                by_cases c50 : x107_46 = true
                                · subst c50
                                  have H1 : (if (t192.size : Int) > 18 then ((laws_awakeConf.f).bind fun t210 => (some t210)) else (some false)) = some r := by rw [if_pos rfl] at H; exact H
                                  clear H
                                  have H := H1
                                  clear H1
                                  by_cases c51 : (t192.size : Int) > 18
                                  · rw [if_pos c51] at H
                                    have c51b0 : decide (18 < (t192.size : Int)) = true := decide_eq_true c51
                                    have c51b1 : decide (18 < t192.size) = true := decide_eq_true (by omega)
                                    clear c51
                                    replace H := Option.bind_eq_some_iff.mp H
                                    obtain ⟨t210, A520, H⟩ := H
                                    replace H : (some t210) = some r := H
                                    have A52 := Aside0.mk A520
                                    clear A520
                                    obtain rfl := Option.some.inj H
                                    go_wp2_with (first | (go_at_call 9; (with_reducible refine (laws_awakeConf.calls  t210 _ (by repeat (first | exact HPM.out | exact prem_below HPM.out HB.out | (with_reducible refine prem_below ?_ (Drawn0.below ⟨_, rfl⟩)))) A52.out).mono ?_); rintro e w53 ⟨rfl, hb⟩; have n0_ := Aside0.mk (below_step (by repeat (first | (with_reducible first | exact HB.out | apply below_alloc | apply pw_below_drewN | apply below_drew1) | exact HB.out)) hb); clear HB; have HB := n0_; clear n0_; (try clear hb); (try clear hb2); (try clear hk); (try clear hi)))
                                    go_ret
                                    exact ⟨by first | rfl | (simp [errW_none, errW_some] <;> rfl) | (simp [*, errW_none, errW_some] <;> rfl), by repeat (first | (with_reducible first | exact HB.out | apply below_alloc | apply pw_below_drewN | apply below_drew1) | exact HB.out)⟩
                                  · rw [if_neg c51] at H
                                    have c51b0 : decide (18 < (t192.size : Int)) = false := decide_eq_false c51
                                    have c51b1 : decide (18 < t192.size) = false := decide_eq_false (by omega)
                                    clear c51
                                    obtain rfl := Option.some.inj H
                                    go_wp2
                                    go_ret
                                    exact ⟨by first | rfl | (simp [errW_none, errW_some] <;> rfl) | (simp [*, errW_none, errW_some] <;> rfl), by repeat (first | (with_reducible first | exact HB.out | apply below_alloc | apply pw_below_drewN | apply below_drew1) | exact HB.out)⟩
                                · replace c50 := Bool.eq_false_iff.mpr c50
                                  subst c50
                                  have H1 : (if t207 = true then (if t209 = 0 then (if t208 = t206 then ((laws_awakeConf.f).bind fun t211 => (some t211)) else (some false)) else (some false)) else ((laws_awakeConf.f).bind fun t212 => (some t212))) = some r := by rw [if_neg (show ¬ (false = true) by decide)] at H; exact H
                                  clear H
                                  have H := H1
                                  clear H1
                                  by_cases c54 : t207 = true
                                  · subst c54
                                    have H1 : (if t209 = 0 then (if t208 = t206 then ((laws_awakeConf.f).bind fun t211 => (some t211)) else (some false)) else (some false)) = some r := by rw [if_pos rfl] at H; exact H
                                    clear H
                                    have H := H1
                                    clear H1
                                    by_cases c55 : t209 = 0
                                    · rw [if_pos c55] at H
                                      have c55b0 : (t209 == 0) = true := beq_iff_eq.mpr c55
                                      have c55b1 : (t209 != 0) = false := bne_eq_false_iff_eq.mpr c55
                                      clear c55
                                      by_cases c56 : t208 = t206
                                      · rw [if_pos c56] at H
                                        have c56b0 : (t208 == t206) = true := beq_iff_eq.mpr c56
                                        have c56b1 : (t208 != t206) = false := bne_eq_false_iff_eq.mpr c56
                                        clear c56
                                        replace H := Option.bind_eq_some_iff.mp H
                                        obtain ⟨t211, A570, H⟩ := H
                                        replace H : (some t211) = some r := H
                                        have A57 := Aside0.mk A570
                                        clear A570
                                        obtain rfl := Option.some.inj H
                                        go_wp2_with (first | (go_at_call 9; (with_reducible refine (laws_awakeConf.calls  t211 _ (by repeat (first | exact HPM.out | exact prem_below HPM.out HB.out | (with_reducible refine prem_below ?_ (Drawn0.below ⟨_, rfl⟩)))) A57.out).mono ?_); rintro e w58 ⟨rfl, hb⟩; have n0_ := Aside0.mk (below_step (by repeat (first | (with_reducible first | exact HB.out | apply below_alloc | apply pw_below_drewN | apply below_drew1) | exact HB.out)) hb); clear HB; have HB := n0_; clear n0_; (try clear hb); (try clear hb2); (try clear hk); (try clear hi)))
                                        go_ret
                                        exact ⟨by first | rfl | (simp [errW_none, errW_some] <;> rfl) | (simp [*, errW_none, errW_some] <;> rfl), by repeat (first | (with_reducible first | exact HB.out | apply below_alloc | apply pw_below_drewN | apply below_drew1) | exact HB.out)⟩
                                      · rw [if_neg c56] at H
                                        have c56b0 : (t208 == t206) = false := beq_eq_false_iff_ne.mpr c56
                                        have c56b1 : (t208 != t206) = true := bne_iff_ne.mpr c56
                                        obtain rfl := Option.some.inj H
                                        go_wp2
                                        go_ret
                                        exact ⟨by first | rfl | (simp [errW_none, errW_some] <;> rfl) | (simp [*, errW_none, errW_some] <;> rfl), by repeat (first | (with_reducible first | exact HB.out | apply below_alloc | apply pw_below_drewN | apply below_drew1) | exact HB.out)⟩
                                    · rw [if_neg c55] at H
                                      have c55b0 : (t209 == 0) = false := beq_eq_false_iff_ne.mpr c55
                                      have c55b1 : (t209 != 0) = true := bne_iff_ne.mpr c55
                                      obtain rfl := Option.some.inj H
                                      go_wp2
                                      go_ret
                                      exact ⟨by first | rfl | (simp [errW_none, errW_some] <;> rfl) | (simp [*, errW_none, errW_some] <;> rfl), by repeat (first | (with_reducible first | exact HB.out | apply below_alloc | apply pw_below_drewN | apply below_drew1) | exact HB.out)⟩
                                  · replace c54 := Bool.eq_false_iff.mpr c54
                                    subst c54
                                    have H1 : ((laws_awakeConf.f).bind fun t212 => (some t212)) = some r := by rw [if_neg (show ¬ (false = true) by decide)] at H; exact H
                                    clear H
                                    have H := H1
                                    clear H1
                                    replace H := Option.bind_eq_some_iff.mp H
                                    obtain ⟨t212, A590, H⟩ := H
                                    replace H : (some t212) = some r := H
                                    have A59 := Aside0.mk A590
                                    clear A590
                                    obtain rfl := Option.some.inj H
                                    go_wp2_with (first | (go_at_call 9; (with_reducible refine (laws_awakeConf.calls  t212 _ (by repeat (first | exact HPM.out | exact prem_below HPM.out HB.out | (with_reducible refine prem_below ?_ (Drawn0.below ⟨_, rfl⟩)))) A59.out).mono ?_); rintro e w60 ⟨rfl, hb⟩; have n0_ := Aside0.mk (below_step (by repeat (first | (with_reducible first | exact HB.out | apply below_alloc | apply pw_below_drewN | apply below_drew1) | exact HB.out)) hb); clear HB; have HB := n0_; clear n0_; (try clear hb); (try clear hb2); (try clear hk); (try clear hi)))
                                    go_ret
                                    exact ⟨by first | rfl | (simp [errW_none, errW_some] <;> rfl) | (simp [*, errW_none, errW_some] <;> rfl), by repeat (first | (with_reducible first | exact HB.out | apply below_alloc | apply pw_below_drewN | apply below_drew1) | exact HB.out)⟩

end Go.Proofs.YtbomcdnijklgjaaGreatDoor.PFnConfigValues
