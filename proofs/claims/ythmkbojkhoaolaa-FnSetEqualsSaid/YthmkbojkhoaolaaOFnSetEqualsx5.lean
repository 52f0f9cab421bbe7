/- The machine side of laws.FnSetEquals: each function of this text answers what its Lean function answers (written for this claim by a program of this session over the kit's print; no condition beyond what each theorem says). -/
import Derived.Test.YthmkbojkhoaolaaOFnSetEqualsx0
import Derived.Test.YthmkbojkhoaolaaOFnSetEqualsx1
import Derived.Test.YthmkbojkhoaolaaOFnSetEqualsx3
import Derived.Test.YthmkbojkhoaolaaOFnSetEqualsx4
namespace Go.Proofs.Ythmkbojkhoaolaa.PFnSetEquals
open Go.RowKit Go.Proofs.YthmkbojkhoaolaaW.PrintWords Go.Proofs.YthmkbojkhoaolaaW.PrintLast Go.Proofs.YthmkbojkhoaolaaW.PrintMore
attribute [local go_sem] max2_int min2_int max_two min_two max_three min_three max_four min_four   -- for this text's walks alone
set_option linter.unusedVariables false
set_option linter.unusedSimpArgs false

/-! ### laws_FnSetEquals: function 3 -/
mutual
def laws_FnSetEquals.j0 : Nat → List ByteArray → List ByteArray → List Int → List Int → Bool → Option (Bool)
  | 0, _, _, _, _, _ => none
  | k + 1, x0, x1, x2, x3, x26 => if x26 = true then (some true) else ((laws_texts.f x0).bind fun t169 => (if t169 = true then ((laws_texts.f x1).bind fun t170 => (if t170 = true then (if (x2.length : Int) > 20 then (laws_FnSetEquals.j1 k x0 x1 x2 x3 true) else (laws_FnSetEquals.j1 k x0 x1 x2 x3 (decide ((x3.length : Int) > 20)))) else (laws_FnSetEquals.j1 k x0 x1 x2 x3 true))) else (laws_FnSetEquals.j1 k x0 x1 x2 x3 true)))
def laws_FnSetEquals.j1 : Nat → List ByteArray → List ByteArray → List Int → List Int → Bool → Option (Bool)
  | 0, _, _, _, _, _ => none
  | k + 1, x0, x1, x2, x3, x44 => if x44 = true then ((laws_awakeUtil.f k).bind fun t171 => (some t171)) else ((laws_copied.f x0).bind fun t172 => ((laws_copied.f x1).bind fun t175 => ((impl_SetEquals.f k t172 t175).bind fun t178 => ((spec_SameBag.f k x0 x1).bind fun t179 => (if (t178 == t179) = true then ((some (([] : List Int) : List Int)).bind fun y180 => (if y180.length + x2.length < 17592186044416 then ((some (([] : List Int) : List Int)).bind fun y186 => (if y186.length + x3.length < 17592186044416 then ((impl_SetEqualsInt.f k (y180 ++ x2) (y186 ++ x3)).bind fun t192 => ((spec_SameInts.f k x2 x3).bind fun t193 => (if (t192 == t193) = true then ((laws_awakeUtil.f k).bind fun t194 => (some t194)) else (some false)))) else (none))) else (none))) else (some false))))))
end
def laws_FnSetEquals.f (k : Nat) (l0 : List ByteArray) (l1 : List ByteArray) (l2 : List Int) (l3 : List Int) : Option (Bool) := (laws_zzFits10.f k l0).bind fun t167 => (if t167 = true then ((laws_zzFits10.f k l1).bind fun t168 => (if t168 = true then (if (l2.length : Int) > 2147483647 then (laws_FnSetEquals.j0 k l0 l1 l2 l3 true) else (laws_FnSetEquals.j0 k l0 l1 l2 l3 (decide ((l3.length : Int) > 2147483647)))) else (laws_FnSetEquals.j0 k l0 l1 l2 l3 true))) else (laws_FnSetEquals.j0 k l0 l1 l2 l3 true))
theorem laws_FnSetEquals.mono_l : ∀ k, (∀ y0 y1 y2 y3 y4, LeO (laws_FnSetEquals.j0 k y0 y1 y2 y3 y4) (laws_FnSetEquals.j0 (k + 1) y0 y1 y2 y3 y4)) ∧ (∀ y0 y1 y2 y3 y4, LeO (laws_FnSetEquals.j1 k y0 y1 y2 y3 y4) (laws_FnSetEquals.j1 (k + 1) y0 y1 y2 y3 y4))
  | 0 => ⟨fun _ _ _ _ _ r h => by simp [laws_FnSetEquals.j0] at h, fun _ _ _ _ _ r h => by simp [laws_FnSetEquals.j1] at h⟩
  | k + 1 => by
    obtain ⟨ih0, ih1⟩ := laws_FnSetEquals.mono_l k
    refine ⟨?_, ?_⟩
    · intro y0 y1 y2 y3 y4
      unfold laws_FnSetEquals.j0
      repeat' first
      | (with_reducible exact ih0 _ _ _ _ _)
      | (with_reducible exact ih1 _ _ _ _ _)
      | (with_reducible exact impl_SetEquals.mono _ _ _)
      | (with_reducible exact impl_SetEqualsInt.mono _ _ _)
      | (with_reducible exact laws_awakeUtil.mono _)
      | (with_reducible exact laws_zzFits10.mono _ _)
      | (with_reducible exact spec_SameBag.mono _ _ _)
      | (with_reducible exact spec_SameInts.mono _ _ _)
      | (with_reducible exact LeO.refl _)
      | (with_reducible exact LeO.none _)
      | (with_reducible refine LeO.ite ?_ ?_)
      | (with_reducible refine LeO.bind ?_ (fun _ => ?_))
      | exact ih0 _ _ _ _ _
      | exact ih1 _ _ _ _ _
      | exact impl_SetEquals.mono _ _ _
      | exact impl_SetEqualsInt.mono _ _ _
      | exact laws_awakeUtil.mono _
      | exact laws_zzFits10.mono _ _
      | exact spec_SameBag.mono _ _ _
      | exact spec_SameInts.mono _ _ _
      | exact LeO.none _
      | refine LeO.ite ?_ ?_
      | refine LeO.bind ?_ (fun _ => ?_)
    · intro y0 y1 y2 y3 y4
      unfold laws_FnSetEquals.j1
      repeat' first
      | (with_reducible exact ih0 _ _ _ _ _)
      | (with_reducible exact ih1 _ _ _ _ _)
      | (with_reducible exact impl_SetEquals.mono _ _ _)
      | (with_reducible exact impl_SetEqualsInt.mono _ _ _)
      | (with_reducible exact laws_awakeUtil.mono _)
      | (with_reducible exact laws_zzFits10.mono _ _)
      | (with_reducible exact spec_SameBag.mono _ _ _)
      | (with_reducible exact spec_SameInts.mono _ _ _)
      | (with_reducible exact LeO.refl _)
      | (with_reducible exact LeO.none _)
      | (with_reducible refine LeO.ite ?_ ?_)
      | (with_reducible refine LeO.bind ?_ (fun _ => ?_))
      | exact ih0 _ _ _ _ _
      | exact ih1 _ _ _ _ _
      | exact impl_SetEquals.mono _ _ _
      | exact impl_SetEqualsInt.mono _ _ _
      | exact laws_awakeUtil.mono _
      | exact laws_zzFits10.mono _ _
      | exact spec_SameBag.mono _ _ _
      | exact spec_SameInts.mono _ _ _
      | exact LeO.none _
      | refine LeO.ite ?_ ?_
      | refine LeO.bind ?_ (fun _ => ?_)
theorem laws_FnSetEquals.mono : ∀ a0 a1 a2 a3 k, LeO (laws_FnSetEquals.f k a0 a1 a2 a3) (laws_FnSetEquals.f (k + 1) a0 a1 a2 a3) := by
  intro a0 a1 a2 a3 k
  obtain ⟨ih0, ih1⟩ := laws_FnSetEquals.mono_l k
  unfold laws_FnSetEquals.f
  repeat' first
      | (with_reducible exact ih0 _ _ _ _ _)
      | (with_reducible exact ih1 _ _ _ _ _)
      | (with_reducible exact impl_SetEquals.mono _ _ _)
      | (with_reducible exact impl_SetEqualsInt.mono _ _ _)
      | (with_reducible exact laws_awakeUtil.mono _)
      | (with_reducible exact laws_zzFits10.mono _ _)
      | (with_reducible exact spec_SameBag.mono _ _ _)
      | (with_reducible exact spec_SameInts.mono _ _ _)
      | (with_reducible exact LeO.refl _)
      | (with_reducible exact LeO.none _)
      | (with_reducible refine LeO.ite ?_ ?_)
      | (with_reducible refine LeO.bind ?_ (fun _ => ?_))
      | exact ih0 _ _ _ _ _
      | exact ih1 _ _ _ _ _
      | exact impl_SetEquals.mono _ _ _
      | exact impl_SetEqualsInt.mono _ _ _
      | exact laws_awakeUtil.mono _
      | exact laws_zzFits10.mono _ _
      | exact spec_SameBag.mono _ _ _
      | exact spec_SameInts.mono _ _ _
      | exact LeO.none _
      | refine LeO.ite ?_ ?_
      | refine LeO.bind ?_ (fun _ => ?_)
set_option maxHeartbeats 8000000 in
set_option maxRecDepth 100000 in
theorem laws_FnSetEquals.calls (k : Nat) (A0 : Option Addr) (c0 : Nat) (l0 : List ByteArray) (A1 : Option Addr) (c1 : Nat) (l1 : List ByteArray) (A2 : Option Addr) (c2 : Nat) (l2 : List Int) (A3 : Option Addr) (c3 : Nat) (l3 : List Int) (r : Bool) (w : World) (hr0 : Kd.C Kd.string w A0 l0.length l0) (hc0 : l0.length ≤ c0) (hr1 : Kd.C Kd.string w A1 l1.length l1) (hc1 : l1.length ≤ c1) (hr2 : Kd.C (Kd.int .i64) w A2 l2.length l2) (hc2 : l2.length ≤ c2) (hr3 : Kd.C (Kd.int .i64) w A3 l3.length l3) (hc3 : l3.length ≤ c3) (h : laws_FnSetEquals.f k l0 l1 l2 l3 = some r) :
    Calls Try.prog 3 #[.slice A0 l0.length c0, .slice A1 l1.length c1, .slice A2 l2.length c2, .slice A3 l3.length c3] w fun e w' => e = .returned (.bool r) ∧ Below w.heap.size w w' := by
  have HR0 := Aside0.mk hr0
  have HC0 := Aside0.mk hc0
  clear hr0 hc0
  have HR1 := Aside0.mk hr1
  have HC1 := Aside0.mk hc1
  clear hr1 hc1
  have HR2 := Aside0.mk hr2
  have HC2 := Aside0.mk hc2
  clear hr2 hc2
  have HR3 := Aside0.mk hr3
  have HC3 := Aside0.mk hc3
  clear hr3 hc3
  have HB := Aside0.mk (Below.refl w.heap.size w)
  have H : ((laws_zzFits10.f k l0).bind fun t167 => (if t167 = true then ((laws_zzFits10.f k l1).bind fun t168 => (if t168 = true then (if (l2.length : Int) > 2147483647 then (laws_FnSetEquals.j0 k l0 l1 l2 l3 true) else (laws_FnSetEquals.j0 k l0 l1 l2 l3 (decide ((l3.length : Int) > 2147483647)))) else (laws_FnSetEquals.j0 k l0 l1 l2 l3 true))) else (laws_FnSetEquals.j0 k l0 l1 l2 l3 true))) = some r := h
  clear h
  have HC5 := Aside0.mk H
  clear H
  go_enter Try.func3, Try.ntmps3
  go_upto_region 1 with (fail)
  go_cut [26] (fun v26 wc => ∃ (kq : Nat) (x26_4 : Bool), v26 = .bool x26_4 ∧ Aside0 (laws_FnSetEquals.j0 kq l0 l1 l2 l3 x26_4 = some r) ∧ Aside0 (kq ≤ k) ∧ Aside0 (Below w.heap.size w wc))
  case first =>
    have H := HC5.out
    clear HC5
    replace H := Option.bind_eq_some_iff.mp H
    obtain ⟨t167, A60, H⟩ := H
    replace H : (if t167 = true then ((laws_zzFits10.f k l1).bind fun t168 => (if t168 = true then (if (l2.length : Int) > 2147483647 then (laws_FnSetEquals.j0 k l0 l1 l2 l3 true) else (laws_FnSetEquals.j0 k l0 l1 l2 l3 (decide ((l3.length : Int) > 2147483647)))) else (laws_FnSetEquals.j0 k l0 l1 l2 l3 true))) else (laws_FnSetEquals.j0 k l0 l1 l2 l3 true)) = some r := H
    have A6 := Aside0.mk A60
    clear A60
    by_cases c7 : t167 = true
    · subst c7
      have H1 : ((laws_zzFits10.f k l1).bind fun t168 => (if t168 = true then (if (l2.length : Int) > 2147483647 then (laws_FnSetEquals.j0 k l0 l1 l2 l3 true) else (laws_FnSetEquals.j0 k l0 l1 l2 l3 (decide ((l3.length : Int) > 2147483647)))) else (laws_FnSetEquals.j0 k l0 l1 l2 l3 true))) = some r := by rw [if_pos rfl] at H; exact H
      clear H
      have H := H1
      clear H1
      replace H := Option.bind_eq_some_iff.mp H
      obtain ⟨t168, A80, H⟩ := H
      replace H : (if t168 = true then (if (l2.length : Int) > 2147483647 then (laws_FnSetEquals.j0 k l0 l1 l2 l3 true) else (laws_FnSetEquals.j0 k l0 l1 l2 l3 (decide ((l3.length : Int) > 2147483647)))) else (laws_FnSetEquals.j0 k l0 l1 l2 l3 true)) = some r := H
      have A8 := Aside0.mk A80
      clear A80
      by_cases c9 : t168 = true
      · subst c9
        have H1 : (if (l2.length : Int) > 2147483647 then (laws_FnSetEquals.j0 k l0 l1 l2 l3 true) else (laws_FnSetEquals.j0 k l0 l1 l2 l3 (decide ((l3.length : Int) > 2147483647)))) = some r := by rw [if_pos rfl] at H; exact H
        clear H
        have H := H1
        clear H1
        by_cases c10 : (l2.length : Int) > 2147483647
        · rw [if_pos c10] at H
          have c10b0 : decide (2147483647 < (l2.length : Int)) = true := decide_eq_true c10
          have c10b1 : decide (2147483647 < l2.length) = true := decide_eq_true (by omega)
          clear c10
          (first | rw [c10b0] | (simp only [i64_w, i32_w]; rw [c10b0]) | skip)
          have H' := Aside0.mk H
          clear H
          go_wp2_with (first | ((with_reducible refine gate_callee (f := 7) rfl ?_); refine goesL_ (some 10) rfl rfl Try.func7 (by kernel_rfl) rfl #[.slice A0 l0.length c0] rfl (by (try simp only [List.map_toArray, List.map_cons, List.map_nil]); first | done | rfl | (simp only [List.length_drop, List.length_take]; rfl)) ?_; (with_reducible refine (laws_zzFits10.calls k _ _ l0 true _ ?side1 ?side2 A6.out).mono ?_); (case side1 => repeat (first | exact (Kd.C_below HR0.out HB.out) | (with_reducible refine Kd.C_alloc ?_ _) | (with_reducible refine Kd.C_drewN ?_ _) | (with_reducible refine Kd.C_drew ?_))); (case side2 => exact HC0.out); rintro e w' ⟨rfl, ⟨nd, rfl⟩⟩; refine ⟨_, rfl, ?_⟩) | (go_at_call 7; (with_reducible refine (laws_zzFits10.calls k _ _ l1 true _ ?side1 ?side2 A8.out).mono ?_); (case side1 => repeat (first | exact (Kd.C_below HR1.out (by repeat (first | (with_reducible first | exact HB.out | apply below_alloc | apply pw_below_drewN | apply below_drew1) | exact HB.out))) | (with_reducible refine Kd.C_alloc ?_ _) | (with_reducible refine Kd.C_drewN ?_ _) | (with_reducible refine Kd.C_drew ?_))); (case side2 => exact HC1.out); rintro e w' ⟨rfl, ⟨nd, rfl⟩⟩))
          go_meet
          case rel => exact ⟨_, (true), (by first | rfl | (simp; done) | (simp [*]; done)), H', ⟨by first | omega | exact Nat.le_refl _⟩, ⟨by repeat (first | (with_reducible first | exact HB.out | apply below_alloc | apply pw_below_drewN | apply below_drew1) | exact HB.out)⟩⟩
        · rw [if_neg c10] at H
          have c10b0 : decide (2147483647 < (l2.length : Int)) = false := decide_eq_false c10
          have c10b1 : decide (2147483647 < l2.length) = false := decide_eq_false (by omega)
          clear c10
          (first | rw [c10b0] | (simp only [i64_w, i32_w]; rw [c10b0]) | skip)
          have H' := Aside0.mk H
          clear H
          go_wp2_with (first | ((with_reducible refine gate_callee (f := 7) rfl ?_); refine goesL_ (some 10) rfl rfl Try.func7 (by kernel_rfl) rfl #[.slice A0 l0.length c0] rfl (by (try simp only [List.map_toArray, List.map_cons, List.map_nil]); first | done | rfl | (simp only [List.length_drop, List.length_take]; rfl)) ?_; (with_reducible refine (laws_zzFits10.calls k _ _ l0 true _ ?side1 ?side2 A6.out).mono ?_); (case side1 => repeat (first | exact (Kd.C_below HR0.out HB.out) | (with_reducible refine Kd.C_alloc ?_ _) | (with_reducible refine Kd.C_drewN ?_ _) | (with_reducible refine Kd.C_drew ?_))); (case side2 => exact HC0.out); rintro e w' ⟨rfl, ⟨nd, rfl⟩⟩; refine ⟨_, rfl, ?_⟩) | (go_at_call 7; (with_reducible refine (laws_zzFits10.calls k _ _ l1 true _ ?side1 ?side2 A8.out).mono ?_); (case side1 => repeat (first | exact (Kd.C_below HR1.out (by repeat (first | (with_reducible first | exact HB.out | apply below_alloc | apply pw_below_drewN | apply below_drew1) | exact HB.out))) | (with_reducible refine Kd.C_alloc ?_ _) | (with_reducible refine Kd.C_drewN ?_ _) | (with_reducible refine Kd.C_drew ?_))); (case side2 => exact HC1.out); rintro e w' ⟨rfl, ⟨nd, rfl⟩⟩))
          go_meet
          case rel => exact ⟨_, (decide ((l3.length : Int) > 2147483647)), (by first | rfl | (simp; done) | (simp [*]; done)), H', ⟨by first | omega | exact Nat.le_refl _⟩, ⟨by repeat (first | (with_reducible first | exact HB.out | apply below_alloc | apply pw_below_drewN | apply below_drew1) | exact HB.out)⟩⟩
      · replace c9 := Bool.eq_false_iff.mpr c9
        subst c9
        have H1 : (laws_FnSetEquals.j0 k l0 l1 l2 l3 true) = some r := by rw [if_neg (show ¬ (false = true) by decide)] at H; exact H
        clear H
        have H := H1
        clear H1
        have H' := Aside0.mk H
        clear H
        go_wp2_with (first | ((with_reducible refine gate_callee (f := 7) rfl ?_); refine goesL_ (some 10) rfl rfl Try.func7 (by kernel_rfl) rfl #[.slice A0 l0.length c0] rfl (by (try simp only [List.map_toArray, List.map_cons, List.map_nil]); first | done | rfl | (simp only [List.length_drop, List.length_take]; rfl)) ?_; (with_reducible refine (laws_zzFits10.calls k _ _ l0 true _ ?side1 ?side2 A6.out).mono ?_); (case side1 => repeat (first | exact (Kd.C_below HR0.out HB.out) | (with_reducible refine Kd.C_alloc ?_ _) | (with_reducible refine Kd.C_drewN ?_ _) | (with_reducible refine Kd.C_drew ?_))); (case side2 => exact HC0.out); rintro e w' ⟨rfl, ⟨nd, rfl⟩⟩; refine ⟨_, rfl, ?_⟩) | (go_at_call 7; (with_reducible refine (laws_zzFits10.calls k _ _ l1 false _ ?side1 ?side2 A8.out).mono ?_); (case side1 => repeat (first | exact (Kd.C_below HR1.out (by repeat (first | (with_reducible first | exact HB.out | apply below_alloc | apply pw_below_drewN | apply below_drew1) | exact HB.out))) | (with_reducible refine Kd.C_alloc ?_ _) | (with_reducible refine Kd.C_drewN ?_ _) | (with_reducible refine Kd.C_drew ?_))); (case side2 => exact HC1.out); rintro e w' ⟨rfl, ⟨nd, rfl⟩⟩))
        go_meet
        case rel => exact ⟨_, (true), (by first | rfl | (simp; done) | (simp [*]; done)), H', ⟨by first | omega | exact Nat.le_refl _⟩, ⟨by repeat (first | (with_reducible first | exact HB.out | apply below_alloc | apply pw_below_drewN | apply below_drew1) | exact HB.out)⟩⟩
    · replace c7 := Bool.eq_false_iff.mpr c7
      subst c7
      have H1 : (laws_FnSetEquals.j0 k l0 l1 l2 l3 true) = some r := by rw [if_neg (show ¬ (false = true) by decide)] at H; exact H
      clear H
      have H := H1
      clear H1
      have H' := Aside0.mk H
      clear H
      go_wp2_with (first | ((with_reducible refine gate_callee (f := 7) rfl ?_); refine goesL_ (some 10) rfl rfl Try.func7 (by kernel_rfl) rfl #[.slice A0 l0.length c0] rfl (by (try simp only [List.map_toArray, List.map_cons, List.map_nil]); first | done | rfl | (simp only [List.length_drop, List.length_take]; rfl)) ?_; (with_reducible refine (laws_zzFits10.calls k _ _ l0 false _ ?side1 ?side2 A6.out).mono ?_); (case side1 => repeat (first | exact (Kd.C_below HR0.out HB.out) | (with_reducible refine Kd.C_alloc ?_ _) | (with_reducible refine Kd.C_drewN ?_ _) | (with_reducible refine Kd.C_drew ?_))); (case side2 => exact HC0.out); rintro e w' ⟨rfl, ⟨nd, rfl⟩⟩; refine ⟨_, rfl, ?_⟩))
      go_meet
      case rel => exact ⟨_, (true), (by first | rfl | (simp; done) | (simp [*]; done)), H', ⟨by first | omega | exact Nat.le_refl _⟩, ⟨by repeat (first | (with_reducible first | exact HB.out | apply below_alloc | apply pw_below_drewN | apply below_drew1) | exact HB.out)⟩⟩
  case rest =>
    clear HC5
    try clear c1
    try clear c2
    try clear p2
    try clear c3
    try clear c7
    try clear c9
    try clear c10
    try clear c10b0
    try clear c10b1
    obtain ⟨kq, x26_4, rfl, HA, HJ4, HB⟩ := hcut
    cases kq with
    | zero => exact absurd HA.out (by simp [laws_FnSetEquals.j0])
    | succ kj4 =>
      have H := HA.out
      clear HA
      simp only [laws_FnSetEquals.j0] at H
      by_cases c11 : x26_4 = true
      · subst c11
        have H1 : (some true) = some r := by rw [if_pos rfl] at H; exact H
        clear H
        have H := H1
        clear H1
        obtain rfl := Option.some.inj H
        go_wp2
        go_ret
        exact ⟨by first | rfl | (simp [errW_none, errW_some] <;> rfl) | (simp [*, errW_none, errW_some] <;> rfl), by repeat (first | (with_reducible first | exact HB.out | apply below_alloc | apply pw_below_drewN | apply below_drew1) | exact HB.out)⟩
      · replace c11 := Bool.eq_false_iff.mpr c11
        subst c11
        have H1 : ((laws_texts.f l0).bind fun t169 => (if t169 = true then ((laws_texts.f l1).bind fun t170 => (if t170 = true then (if (l2.length : Int) > 20 then (laws_FnSetEquals.j1 kj4 l0 l1 l2 l3 true) else (laws_FnSetEquals.j1 kj4 l0 l1 l2 l3 (decide ((l3.length : Int) > 20)))) else (laws_FnSetEquals.j1 kj4 l0 l1 l2 l3 true))) else (laws_FnSetEquals.j1 kj4 l0 l1 l2 l3 true))) = some r := by rw [if_neg (show ¬ (false = true) by decide)] at H; exact H
        clear H
        have H := H1
        clear H1
        have HC12 := Aside0.mk H
        clear H
        go_upto_region 3 with (fail)
        go_cut [44] (fun v44 wc => ∃ (kq : Nat) (x44_11 : Bool), v44 = .bool x44_11 ∧ Aside0 (laws_FnSetEquals.j1 kq l0 l1 l2 l3 x44_11 = some r) ∧ Aside0 (kq ≤ kj4) ∧ Aside0 (Below w.heap.size w wc))
        case first =>
          have H := HC12.out
          clear HC12
          replace H := Option.bind_eq_some_iff.mp H
          obtain ⟨t169, A130, H⟩ := H
          replace H : (if t169 = true then ((laws_texts.f l1).bind fun t170 => (if t170 = true then (if (l2.length : Int) > 20 then (laws_FnSetEquals.j1 kj4 l0 l1 l2 l3 true) else (laws_FnSetEquals.j1 kj4 l0 l1 l2 l3 (decide ((l3.length : Int) > 20)))) else (laws_FnSetEquals.j1 kj4 l0 l1 l2 l3 true))) else (laws_FnSetEquals.j1 kj4 l0 l1 l2 l3 true)) = some r := H
          have A13 := Aside0.mk A130
          clear A130
          by_cases c14 : t169 = true
          · subst c14
            have H1 : ((laws_texts.f l1).bind fun t170 => (if t170 = true then (if (l2.length : Int) > 20 then (laws_FnSetEquals.j1 kj4 l0 l1 l2 l3 true) else (laws_FnSetEquals.j1 kj4 l0 l1 l2 l3 (decide ((l3.length : Int) > 20)))) else (laws_FnSetEquals.j1 kj4 l0 l1 l2 l3 true))) = some r := by rw [if_pos rfl] at H; exact H
            clear H
            have H := H1
            clear H1
            replace H := Option.bind_eq_some_iff.mp H
            obtain ⟨t170, A150, H⟩ := H
            replace H : (if t170 = true then (if (l2.length : Int) > 20 then (laws_FnSetEquals.j1 kj4 l0 l1 l2 l3 true) else (laws_FnSetEquals.j1 kj4 l0 l1 l2 l3 (decide ((l3.length : Int) > 20)))) else (laws_FnSetEquals.j1 kj4 l0 l1 l2 l3 true)) = some r := H
            have A15 := Aside0.mk A150
            clear A150
            by_cases c16 : t170 = true
            · subst c16
              have H1 : (if (l2.length : Int) > 20 then (laws_FnSetEquals.j1 kj4 l0 l1 l2 l3 true) else (laws_FnSetEquals.j1 kj4 l0 l1 l2 l3 (decide ((l3.length : Int) > 20)))) = some r := by rw [if_pos rfl] at H; exact H
              clear H
              have H := H1
              clear H1
              by_cases c17 : (l2.length : Int) > 20
              · rw [if_pos c17] at H
                have c17b0 : decide (20 < (l2.length : Int)) = true := decide_eq_true c17
                have c17b1 : decide (20 < l2.length) = true := decide_eq_true (by omega)
                clear c17
                (first | rw [c17b0] | (simp only [i64_w, i32_w]; rw [c17b0]) | skip)
                have H' := Aside0.mk H
                clear H
                go_wp2_with (first | ((with_reducible refine gate_callee (f := 8) rfl ?_); refine goesL_ (some 28) rfl rfl Try.func8 (by kernel_rfl) rfl #[.slice A0 l0.length c0] rfl (by (try simp only [List.map_toArray, List.map_cons, List.map_nil]); first | done | rfl | (simp only [List.length_drop, List.length_take]; rfl)) ?_; (with_reducible refine (laws_texts.calls _ _ l0 true _ ?side1 ?side2 A13.out).mono ?_); (case side1 => repeat (first | exact (Kd.C_below HR0.out HB.out) | (with_reducible refine Kd.C_alloc ?_ _) | (with_reducible refine Kd.C_drewN ?_ _) | (with_reducible refine Kd.C_drew ?_))); (case side2 => exact HC0.out); rintro e w' ⟨rfl, ⟨nd, rfl⟩⟩; refine ⟨_, rfl, ?_⟩) | (go_at_call 8; (with_reducible refine (laws_texts.calls _ _ l1 true _ ?side1 ?side2 A15.out).mono ?_); (case side1 => repeat (first | exact (Kd.C_below HR1.out (by repeat (first | (with_reducible first | exact HB.out | apply below_alloc | apply pw_below_drewN | apply below_drew1) | exact HB.out))) | (with_reducible refine Kd.C_alloc ?_ _) | (with_reducible refine Kd.C_drewN ?_ _) | (with_reducible refine Kd.C_drew ?_))); (case side2 => exact HC1.out); rintro e w' ⟨rfl, ⟨nd, rfl⟩⟩))
                go_meet
                case rel => exact ⟨_, (true), (by first | rfl | (simp; done) | (simp [*]; done)), H', ⟨by have := HJ4.out; first | omega | exact Nat.le_refl _⟩, ⟨by repeat (first | (with_reducible first | exact HB.out | apply below_alloc | apply pw_below_drewN | apply below_drew1) | exact HB.out)⟩⟩
              · rw [if_neg c17] at H
                have c17b0 : decide (20 < (l2.length : Int)) = false := decide_eq_false c17
                have c17b1 : decide (20 < l2.length) = false := decide_eq_false (by omega)
                clear c17
                (first | rw [c17b0] | (simp only [i64_w, i32_w]; rw [c17b0]) | skip)
                have H' := Aside0.mk H
                clear H
                go_wp2_with (first | ((with_reducible refine gate_callee (f := 8) rfl ?_); refine goesL_ (some 28) rfl rfl Try.func8 (by kernel_rfl) rfl #[.slice A0 l0.length c0] rfl (by (try simp only [List.map_toArray, List.map_cons, List.map_nil]); first | done | rfl | (simp only [List.length_drop, List.length_take]; rfl)) ?_; (with_reducible refine (laws_texts.calls _ _ l0 true _ ?side1 ?side2 A13.out).mono ?_); (case side1 => repeat (first | exact (Kd.C_below HR0.out HB.out) | (with_reducible refine Kd.C_alloc ?_ _) | (with_reducible refine Kd.C_drewN ?_ _) | (with_reducible refine Kd.C_drew ?_))); (case side2 => exact HC0.out); rintro e w' ⟨rfl, ⟨nd, rfl⟩⟩; refine ⟨_, rfl, ?_⟩) | (go_at_call 8; (with_reducible refine (laws_texts.calls _ _ l1 true _ ?side1 ?side2 A15.out).mono ?_); (case side1 => repeat (first | exact (Kd.C_below HR1.out (by repeat (first | (with_reducible first | exact HB.out | apply below_alloc | apply pw_below_drewN | apply below_drew1) | exact HB.out))) | (with_reducible refine Kd.C_alloc ?_ _) | (with_reducible refine Kd.C_drewN ?_ _) | (with_reducible refine Kd.C_drew ?_))); (case side2 => exact HC1.out); rintro e w' ⟨rfl, ⟨nd, rfl⟩⟩))
                go_meet
                case rel => exact ⟨_, (decide ((l3.length : Int) > 20)), (by first | rfl | (simp; done) | (simp [*]; done)), H', ⟨by have := HJ4.out; first | omega | exact Nat.le_refl _⟩, ⟨by repeat (first | (with_reducible first | exact HB.out | apply below_alloc | apply pw_below_drewN | apply below_drew1) | exact HB.out)⟩⟩
            · replace c16 := Bool.eq_false_iff.mpr c16
              subst c16
              have H1 : (laws_FnSetEquals.j1 kj4 l0 l1 l2 l3 true) = some r := by rw [if_neg (show ¬ (false = true) by decide)] at H; exact H
              clear H
              have H := H1
              clear H1
              have H' := Aside0.mk H
              clear H
              go_wp2_with (first | ((with_reducible refine gate_callee (f := 8) rfl ?_); refine goesL_ (some 28) rfl rfl Try.func8 (by kernel_rfl) rfl #[.slice A0 l0.length c0] rfl (by (try simp only [List.map_toArray, List.map_cons, List.map_nil]); first | done | rfl | (simp only [List.length_drop, List.length_take]; rfl)) ?_; (with_reducible refine (laws_texts.calls _ _ l0 true _ ?side1 ?side2 A13.out).mono ?_); (case side1 => repeat (first | exact (Kd.C_below HR0.out HB.out) | (with_reducible refine Kd.C_alloc ?_ _) | (with_reducible refine Kd.C_drewN ?_ _) | (with_reducible refine Kd.C_drew ?_))); (case side2 => exact HC0.out); rintro e w' ⟨rfl, ⟨nd, rfl⟩⟩; refine ⟨_, rfl, ?_⟩) | (go_at_call 8; (with_reducible refine (laws_texts.calls _ _ l1 false _ ?side1 ?side2 A15.out).mono ?_); (case side1 => repeat (first | exact (Kd.C_below HR1.out (by repeat (first | (with_reducible first | exact HB.out | apply below_alloc | apply pw_below_drewN | apply below_drew1) | exact HB.out))) | (with_reducible refine Kd.C_alloc ?_ _) | (with_reducible refine Kd.C_drewN ?_ _) | (with_reducible refine Kd.C_drew ?_))); (case side2 => exact HC1.out); rintro e w' ⟨rfl, ⟨nd, rfl⟩⟩))
              go_meet
              case rel => exact ⟨_, (true), (by first | rfl | (simp; done) | (simp [*]; done)), H', ⟨by have := HJ4.out; first | omega | exact Nat.le_refl _⟩, ⟨by repeat (first | (with_reducible first | exact HB.out | apply below_alloc | apply pw_below_drewN | apply below_drew1) | exact HB.out)⟩⟩
          · replace c14 := Bool.eq_false_iff.mpr c14
            subst c14
            have H1 : (laws_FnSetEquals.j1 kj4 l0 l1 l2 l3 true) = some r := by rw [if_neg (show ¬ (false = true) by decide)] at H; exact H
            clear H
            have H := H1
            clear H1
            have H' := Aside0.mk H
            clear H
            go_wp2_with (first | ((with_reducible refine gate_callee (f := 8) rfl ?_); refine goesL_ (some 28) rfl rfl Try.func8 (by kernel_rfl) rfl #[.slice A0 l0.length c0] rfl (by (try simp only [List.map_toArray, List.map_cons, List.map_nil]); first | done | rfl | (simp only [List.length_drop, List.length_take]; rfl)) ?_; (with_reducible refine (laws_texts.calls _ _ l0 false _ ?side1 ?side2 A13.out).mono ?_); (case side1 => repeat (first | exact (Kd.C_below HR0.out HB.out) | (with_reducible refine Kd.C_alloc ?_ _) | (with_reducible refine Kd.C_drewN ?_ _) | (with_reducible refine Kd.C_drew ?_))); (case side2 => exact HC0.out); rintro e w' ⟨rfl, ⟨nd, rfl⟩⟩; refine ⟨_, rfl, ?_⟩))
            go_meet
            case rel => exact ⟨_, (true), (by first | rfl | (simp; done) | (simp [*]; done)), H', ⟨by have := HJ4.out; first | omega | exact Nat.le_refl _⟩, ⟨by repeat (first | (with_reducible first | exact HB.out | apply below_alloc | apply pw_below_drewN | apply below_drew1) | exact HB.out)⟩⟩
        case rest =>
          clear HC12
          try clear c1
          try clear c2
          try clear p2
          try clear c3
          try clear c7
          try clear c8
          try clear c9
          try clear c10
          try clear c10b0
          try clear c10b1
          try clear c11
          try clear c14
          try clear c16
          try clear c17
          try clear c17b0
          try clear c17b1
          try clear p2
          obtain ⟨kq, x44_11, rfl, HA, HJ11, HB⟩ := hcut
          cases kq with
          | zero => exact absurd HA.out (by simp [laws_FnSetEquals.j1])
          | succ kj11 =>
            have H := HA.out
            clear HA
            simp only [laws_FnSetEquals.j1] at H
            by_cases c18 : x44_11 = true
            · subst c18
              have H1 : ((laws_awakeUtil.f kj11).bind fun t171 => (some t171)) = some r := by rw [if_pos rfl] at H; exact H
              clear H
              have H := H1
              clear H1
              replace H := Option.bind_eq_some_iff.mp H
              obtain ⟨t171, A190, H⟩ := H
              replace H : (some t171) = some r := H
              have A19 := Aside0.mk A190
              clear A190
              obtain rfl := Option.some.inj H
              go_wp2_with (first | ((with_reducible refine gate_callee (f := 9) rfl ?_); refine goesL_ (some 45) rfl rfl Try.func9 (by kernel_rfl) rfl #[] rfl (by (try simp only [List.map_toArray, List.map_cons, List.map_nil]); first | done | rfl | (simp only [List.length_drop, List.length_take]; rfl)) ?_; (with_reducible refine (laws_awakeUtil.calls kj11  t171 _ A19.out).mono ?_); rintro e w20 ⟨rfl, hb⟩; refine ⟨_, rfl, ?_⟩; have n0_ := Aside0.mk (below_step (by repeat (first | (with_reducible first | exact HB.out | apply below_alloc | apply pw_below_drewN | apply below_drew1) | exact HB.out)) hb); clear HB; have HB := n0_; clear n0_; (try clear hb); (try clear hb2); (try clear hk); (try clear hi)))
              go_ret
              exact ⟨by first | rfl | (simp [errW_none, errW_some] <;> rfl) | (simp [*, errW_none, errW_some] <;> rfl), by repeat (first | (with_reducible first | exact HB.out | apply below_alloc | apply pw_below_drewN | apply below_drew1) | exact HB.out)⟩
            · replace c18 := Bool.eq_false_iff.mpr c18
              subst c18
              have H1 : ((laws_copied.f l0).bind fun t172 => ((laws_copied.f l1).bind fun t175 => ((impl_SetEquals.f kj11 t172 t175).bind fun t178 => ((spec_SameBag.f kj11 l0 l1).bind fun t179 => (if (t178 == t179) = true then ((some (([] : List Int) : List Int)).bind fun y180 => (if y180.length + l2.length < 17592186044416 then ((some (([] : List Int) : List Int)).bind fun y186 => (if y186.length + l3.length < 17592186044416 then ((impl_SetEqualsInt.f kj11 (y180 ++ l2) (y186 ++ l3)).bind fun t192 => ((spec_SameInts.f kj11 l2 l3).bind fun t193 => (if (t192 == t193) = true then ((laws_awakeUtil.f kj11).bind fun t194 => (some t194)) else (some false)))) else (none))) else (none))) else (some false)))))) = some r := by rw [if_neg (show ¬ (false = true) by decide)] at H; exact H
              clear H
              have H := H1
              clear H1
              replace H := Option.bind_eq_some_iff.mp H
              obtain ⟨t172, A210, H⟩ := H
              replace H : ((laws_copied.f l1).bind fun t175 => ((impl_SetEquals.f kj11 t172 t175).bind fun t178 => ((spec_SameBag.f kj11 l0 l1).bind fun t179 => (if (t178 == t179) = true then ((some (([] : List Int) : List Int)).bind fun y180 => (if y180.length + l2.length < 17592186044416 then ((some (([] : List Int) : List Int)).bind fun y186 => (if y186.length + l3.length < 17592186044416 then ((impl_SetEqualsInt.f kj11 (y180 ++ l2) (y186 ++ l3)).bind fun t192 => ((spec_SameInts.f kj11 l2 l3).bind fun t193 => (if (t192 == t193) = true then ((laws_awakeUtil.f kj11).bind fun t194 => (some t194)) else (some false)))) else (none))) else (none))) else (some false))))) = some r := H
              have A21 := Aside0.mk A210
              clear A210
              replace H := Option.bind_eq_some_iff.mp H
              obtain ⟨t175, A220, H⟩ := H
              replace H : ((impl_SetEquals.f kj11 t172 t175).bind fun t178 => ((spec_SameBag.f kj11 l0 l1).bind fun t179 => (if (t178 == t179) = true then ((some (([] : List Int) : List Int)).bind fun y180 => (if y180.length + l2.length < 17592186044416 then ((some (([] : List Int) : List Int)).bind fun y186 => (if y186.length + l3.length < 17592186044416 then ((impl_SetEqualsInt.f kj11 (y180 ++ l2) (y186 ++ l3)).bind fun t192 => ((spec_SameInts.f kj11 l2 l3).bind fun t193 => (if (t192 == t193) = true then ((laws_awakeUtil.f kj11).bind fun t194 => (some t194)) else (some false)))) else (none))) else (none))) else (some false)))) = some r := H
              have A22 := Aside0.mk A220
              clear A220
              replace H := Option.bind_eq_some_iff.mp H
              obtain ⟨t178, A230, H⟩ := H
              replace H : ((spec_SameBag.f kj11 l0 l1).bind fun t179 => (if (t178 == t179) = true then ((some (([] : List Int) : List Int)).bind fun y180 => (if y180.length + l2.length < 17592186044416 then ((some (([] : List Int) : List Int)).bind fun y186 => (if y186.length + l3.length < 17592186044416 then ((impl_SetEqualsInt.f kj11 (y180 ++ l2) (y186 ++ l3)).bind fun t192 => ((spec_SameInts.f kj11 l2 l3).bind fun t193 => (if (t192 == t193) = true then ((laws_awakeUtil.f kj11).bind fun t194 => (some t194)) else (some false)))) else (none))) else (none))) else (some false))) = some r := H
              have A23 := Aside0.mk A230
              clear A230
              replace H := Option.bind_eq_some_iff.mp H
              obtain ⟨t179, A240, H⟩ := H
              replace H : (if (t178 == t179) = true then ((some (([] : List Int) : List Int)).bind fun y180 => (if y180.length + l2.length < 17592186044416 then ((some (([] : List Int) : List Int)).bind fun y186 => (if y186.length + l3.length < 17592186044416 then ((impl_SetEqualsInt.f kj11 (y180 ++ l2) (y186 ++ l3)).bind fun t192 => ((spec_SameInts.f kj11 l2 l3).bind fun t193 => (if (t192 == t193) = true then ((laws_awakeUtil.f kj11).bind fun t194 => (some t194)) else (some false)))) else (none))) else (none))) else (some false)) = some r := H
              have A24 := Aside0.mk A240
              clear A240
              by_cases c25 : (t178 == t179) = true
              · rw [if_pos c25] at H
                have c25b0 : (t178 == t179) = true := c25
                (try (have c25b1 : decide (t178 = t179) = true := by simpa using c25))
                (try (have c25b2 : (t178 == t179) = true := by simpa using c25))
                clear c25
                obtain ⟨y180, hy180⟩ : ∃ y_ : List Int, y_ = (([] : List Int)) := ⟨_, rfl⟩
                replace H : (if y180.length + l2.length < 17592186044416 then ((some (([] : List Int) : List Int)).bind fun y186 => (if y186.length + l3.length < 17592186044416 then ((impl_SetEqualsInt.f kj11 (y180 ++ l2) (y186 ++ l3)).bind fun t192 => ((spec_SameInts.f kj11 l2 l3).bind fun t193 => (if (t192 == t193) = true then ((laws_awakeUtil.f kj11).bind fun t194 => (some t194)) else (some false)))) else (none))) else (none)) = some r := by first | (rw [hy180]; with_reducible exact H) | (have H2_ := (Option.bind_some _ _).symm.trans H; rw [hy180]; with_reducible exact H2_) | (have H2_ := (Option.bind_some _ _).symm.trans H; with_reducible exact H2_) | with_reducible exact H | (rw [hy180]; exact H) | exact H
                have Ny180 := Aside0.mk hy180
                clear hy180
                by_cases c26 : y180.length + l2.length < 17592186044416
                · rw [if_pos c26] at H
                  have LMc26 := Aside0.mk c26
                  clear c26
                  obtain ⟨y183, hy183⟩ : ∃ y_ : List Int, y_ = (y180 ++ l2) := ⟨_, rfl⟩
                  replace H : ((some (([] : List Int) : List Int)).bind fun y186 => (if y186.length + l3.length < 17592186044416 then ((impl_SetEqualsInt.f kj11 y183 (y186 ++ l3)).bind fun t192 => ((spec_SameInts.f kj11 l2 l3).bind fun t193 => (if (t192 == t193) = true then ((laws_awakeUtil.f kj11).bind fun t194 => (some t194)) else (some false)))) else (none))) = some r := by first | (rw [hy183]; with_reducible exact H) | (have H2_ := (Option.bind_some _ _).symm.trans H; rw [hy183]; with_reducible exact H2_) | (have H2_ := (Option.bind_some _ _).symm.trans H; with_reducible exact H2_) | with_reducible exact H | (rw [hy183]; exact H) | exact H
                  have Ny183 := Aside0.mk hy183
                  clear hy183
                  obtain ⟨y186, hy186⟩ : ∃ y_ : List Int, y_ = (([] : List Int)) := ⟨_, rfl⟩
                  replace H : (if y186.length + l3.length < 17592186044416 then ((impl_SetEqualsInt.f kj11 y183 (y186 ++ l3)).bind fun t192 => ((spec_SameInts.f kj11 l2 l3).bind fun t193 => (if (t192 == t193) = true then ((laws_awakeUtil.f kj11).bind fun t194 => (some t194)) else (some false)))) else (none)) = some r := by first | (rw [hy186]; with_reducible exact H) | (have H2_ := (Option.bind_some _ _).symm.trans H; rw [hy186]; with_reducible exact H2_) | (have H2_ := (Option.bind_some _ _).symm.trans H; with_reducible exact H2_) | with_reducible exact H | (rw [hy186]; exact H) | exact H
                  have Ny186 := Aside0.mk hy186
                  clear hy186
                  by_cases c27 : y186.length + l3.length < 17592186044416
                  · rw [if_pos c27] at H
                    have LMc27 := Aside0.mk c27
                    clear c27
                    obtain ⟨y189, hy189⟩ : ∃ y_ : List Int, y_ = (y186 ++ l3) := ⟨_, rfl⟩
                    replace H : ((impl_SetEqualsInt.f kj11 y183 y189).bind fun t192 => ((spec_SameInts.f kj11 l2 l3).bind fun t193 => (if (t192 == t193) = true then ((laws_awakeUtil.f kj11).bind fun t194 => (some t194)) else (some false)))) = some r := by first | (rw [hy189]; with_reducible exact H) | (have H2_ := (Option.bind_some _ _).symm.trans H; rw [hy189]; with_reducible exact H2_) | (have H2_ := (Option.bind_some _ _).symm.trans H; with_reducible exact H2_) | with_reducible exact H | (rw [hy189]; exact H) | exact H
                    have Ny189 := Aside0.mk hy189
                    clear hy189
                    replace H := Option.bind_eq_some_iff.mp H
                    obtain ⟨t192, A280, H⟩ := H
                    replace H : ((spec_SameInts.f kj11 l2 l3).bind fun t193 => (if (t192 == t193) = true then ((laws_awakeUtil.f kj11).bind fun t194 => (some t194)) else (some false))) = some r := H
                    have A28 := Aside0.mk A280
                    clear A280
                    replace H := Option.bind_eq_some_iff.mp H
                    obtain ⟨t193, A290, H⟩ := H
                    replace H : (if (t192 == t193) = true then ((laws_awakeUtil.f kj11).bind fun t194 => (some t194)) else (some false)) = some r := H
                    have A29 := Aside0.mk A290
                    clear A290
                    by_cases c30 : (t192 == t193) = true
                    · rw [if_pos c30] at H
                      have c30b0 : (t192 == t193) = true := c30
                      (try (have c30b1 : decide (t192 = t193) = true := by simpa using c30))
                      (try (have c30b2 : (t192 == t193) = true := by simpa using c30))
                      clear c30
                      replace H := Option.bind_eq_some_iff.mp H
                      obtain ⟨t194, A310, H⟩ := H
                      replace H : (some t194) = some r := H
                      have A31 := Aside0.mk A310
                      clear A310
                      obtain rfl := Option.some.inj H
                      go_wp2_with (first | ((with_reducible refine gate_callee (f := 11) rfl ?_); refine goesL_ (some 47) rfl rfl Try.func11 (by kernel_rfl) rfl #[.slice A0 l0.length c0] rfl (by (try simp only [List.map_toArray, List.map_cons, List.map_nil]); first | done | rfl | (simp only [List.length_drop, List.length_take]; rfl)) ?_; (with_reducible refine (laws_copied.calls _ _ l0 t172 _ ?side1 ?side2 A21.out).mono ?_); (case side1 => repeat (first | exact (Kd.C_below HR0.out HB.out) | (with_reducible refine Kd.C_alloc ?_ _) | (with_reducible refine Kd.C_drewN ?_ _) | (with_reducible refine Kd.C_drew ?_))); (case side2 => exact HC0.out); rintro e w32 ⟨v173, rfl, ho0, hb⟩; refine ⟨_, rfl, ?_⟩; have n0_ := Aside0.mk (Kd.R_lower ho0 (below_size (by repeat (first | (with_reducible first | exact HB.out | apply below_alloc | apply pw_below_drewN | apply below_drew1) | exact HB.out)))); have n1_ := Aside0.mk (below_step (by repeat (first | (with_reducible first | exact HB.out | apply below_alloc | apply pw_below_drewN | apply below_drew1) | exact HB.out)) hb); clear HB; have HO174 := n0_; have HB := n1_; clear n0_ n1_; (try clear hb); (try clear hb2); (try clear hk); (try clear hi); (try clear ho0)) | ((with_reducible refine gate_callee (f := 11) rfl ?_); refine goesL_ (some 49) rfl rfl Try.func11 (by kernel_rfl) rfl #[.slice A1 l1.length c1] rfl (by (try simp only [List.map_toArray, List.map_cons, List.map_nil]); first | done | rfl | (simp only [List.length_drop, List.length_take]; rfl)) ?_; (with_reducible refine (laws_copied.calls _ _ l1 t175 _ ?side1 ?side2 A22.out).mono ?_); (case side1 => repeat (first | exact (Kd.C_below HR1.out HB.out) | (with_reducible refine Kd.C_alloc ?_ _) | (with_reducible refine Kd.C_drewN ?_ _) | (with_reducible refine Kd.C_drew ?_))); (case side2 => exact HC1.out); rintro e w33 ⟨v176, rfl, ho0, hb⟩; refine ⟨_, rfl, ?_⟩; have n0_ := Aside0.mk (Kd.R_elder' (by (with_reducible repeat (first | apply Kd.R_alloc | apply Kd.R_drewN | apply Kd.R_drew)); exact HO174.out) (Kd.R_base ho0) hb); have n1_ := Aside0.mk (Kd.R_lower (Kd.R_new' ho0 (Kd.R_lt (by (with_reducible repeat (first | apply Kd.R_alloc | apply Kd.R_drewN | apply Kd.R_drew)); exact HO174.out))) (below_size (by repeat (first | (with_reducible first | exact HB.out | apply below_alloc | apply pw_below_drewN | apply below_drew1) | exact HB.out)))); have n2_ := Aside0.mk (below_step (by repeat (first | (with_reducible first | exact HB.out | apply below_alloc | apply pw_below_drewN | apply below_drew1) | exact HB.out)) hb); clear HO174; clear HB; have HO174 := n0_; have HO177 := n1_; have HB := n2_; clear n0_ n1_ n2_; (try clear hb); (try clear hb2); (try clear hk); (try clear hi); (try clear ho0); obtain ⟨Ao34, co34, eo34⟩ := Kd.R_slice HO174.out; subst eo34; obtain ⟨Ao35, co35, eo35⟩ := Kd.R_slice HO177.out; subst eo35) | ((with_reducible refine gate_callee (f := 10) rfl ?_); refine goesL_ (some 50) rfl rfl Try.func10 (by kernel_rfl) rfl #[.slice Ao34 t172.length co34, .slice Ao35 t175.length co35] rfl (by (try simp only [List.map_toArray, List.map_cons, List.map_nil]); first | done | rfl | (simp only [List.length_drop, List.length_take]; rfl)) ?_; (with_reducible refine (impl_SetEquals.calls kj11 _ _ t172 _ _ t175 t178 _ ?side1 ?side2 ?side3 ?side4 A23.out).mono ?_); (case side1 => repeat (first | exact (Kd.R_reads' HO174.out).2.2 | (with_reducible refine Kd.C_alloc ?_ _) | (with_reducible refine Kd.C_drewN ?_ _) | (with_reducible refine Kd.C_drew ?_))); (case side2 => exact (Kd.R_reads' HO174.out).2.1); (case side3 => repeat (first | exact (Kd.R_reads' HO177.out).2.2 | (with_reducible refine Kd.C_alloc ?_ _) | (with_reducible refine Kd.C_drewN ?_ _) | (with_reducible refine Kd.C_drew ?_))); (case side4 => exact (Kd.R_reads' HO177.out).2.1); rintro e w36 ⟨rfl, hb⟩; refine ⟨_, rfl, ?_⟩; have n0_ := Aside0.mk (Kd.R_below (by (with_reducible repeat (first | apply Kd.R_alloc | apply Kd.R_drewN | apply Kd.R_drew)); exact HO174.out) hb); have n1_ := Aside0.mk (Kd.R_below (by (with_reducible repeat (first | apply Kd.R_alloc | apply Kd.R_drewN | apply Kd.R_drew)); exact HO177.out) hb); have n2_ := Aside0.mk (below_step (by repeat (first | (with_reducible first | exact HB.out | apply below_alloc | apply pw_below_drewN | apply below_drew1) | exact HB.out)) hb); clear HO174; clear HO177; clear HB; have HO174 := n0_; have HO177 := n1_; have HB := n2_; clear n0_ n1_ n2_; (try clear hb); (try clear hb2); (try clear hk); (try clear hi)) | ((with_reducible refine gate_callee (f := 12) rfl ?_); refine goesL_ (some 53) rfl rfl Try.func12 (by kernel_rfl) rfl #[.slice A0 l0.length c0, .slice A1 l1.length c1] rfl (by (try simp only [List.map_toArray, List.map_cons, List.map_nil]); first | done | rfl | (simp only [List.length_drop, List.length_take]; rfl)) ?_; (with_reducible refine (spec_SameBag.calls kj11 _ _ l0 _ _ l1 t179 _ ?side1 ?side2 ?side3 ?side4 A24.out).mono ?_); (case side1 => repeat (first | exact (Kd.C_below HR0.out HB.out) | (with_reducible refine Kd.C_alloc ?_ _) | (with_reducible refine Kd.C_drewN ?_ _) | (with_reducible refine Kd.C_drew ?_))); (case side2 => exact HC0.out); (case side3 => repeat (first | exact (Kd.C_below HR1.out HB.out) | (with_reducible refine Kd.C_alloc ?_ _) | (with_reducible refine Kd.C_drewN ?_ _) | (with_reducible refine Kd.C_drew ?_))); (case side4 => exact HC1.out); rintro e w' ⟨rfl, ⟨nd, rfl⟩⟩; refine ⟨_, rfl, ?_⟩) | ((with_reducible refine gate_dst (N := 56) rfl ?_); (try (refine gate_guard (by rfl) ?_; dsimp only)); refine Kd.R_lit (Kd.int .i64) _ 3 ?hg (N := 56) ?hd (xs := ([] : List Int)) (inner := []) (ok := fun _ => True) (okp := fun _ => True) ?hr ?hp (fun _ hk => hk) trivial (Below.refl _ _) (Nat.le_refl _) (by simp) ?_; (case hd => rfl); (case hg => rfl); (case hr => first | (go_simp; done) | (go_simp; rfl)); (case hp => exact (Reps.none _ _)); intro v181 w37 ho38 hb hg_ hnew_; clear hg_ hnew_; (first | rw [← Ny180.out] at ho38 | (simp only [Int.reduceToNat] at ho38; rw [← Ny180.out] at ho38)); have n0_ := Aside0.mk (Kd.R_below (by (with_reducible repeat (first | apply Kd.R_alloc | apply Kd.R_drewN | apply Kd.R_drew)); exact HO174.out) hb); have n1_ := Aside0.mk (Kd.R_below (by (with_reducible repeat (first | apply Kd.R_alloc | apply Kd.R_drewN | apply Kd.R_drew)); exact HO177.out) hb); have n2_ := Aside0.mk (Kd.R_lower ho38 (below_size (by repeat (first | (with_reducible first | exact HB.out | apply below_alloc | apply pw_below_drewN | apply below_drew1) | exact HB.out)))); have n3_ := Aside0.mk (below_step (by repeat (first | (with_reducible first | exact HB.out | apply below_alloc | apply pw_below_drewN | apply below_drew1) | exact HB.out)) hb); clear HO174; clear HO177; clear HB; have HO174 := n0_; have HO177 := n1_; have HO182 := n2_; have HB := n3_; clear n0_ n1_ n2_ n3_; clear hb ho38) | ((with_reducible refine gate_builtin (b := .append) (xs := #[.tmp 56, .tmp 57]) rfl ?_); (try (refine gate_guard (by rfl) ?_; dsimp only)); at_builtin; refine Kd.R_append_rows (Kd.int .i64) (w0 := w) w.heap.size rfl (.tmp 56) (.tmp 57) 23 3 (.int .i64 0) 8 rfl Try.underlying23 info3 rfl (by decide) (by omega) v181 y180 l2 _ _ _ (fun _ => True) (fun _ => False) rfl rfl ?aO ?aR (fun _ _ h => h) (fun _ h => h.elim) ?aF ?aB ?aS ?aL ?_; (case aR => repeat (first | exact (Kd.C_below HR2.out HB.out) | (with_reducible refine Kd.C_alloc ?_ _) | (with_reducible refine Kd.C_drewN ?_ _) | (with_reducible refine Kd.C_drew ?_))); (case aB => exact (by repeat (first | (with_reducible first | exact HB.out | apply below_alloc | apply pw_below_drewN | apply below_drew1) | exact HB.out))); (case aF => exact (fun _ _ => trivial)); (case aO => exact (by (with_reducible repeat (first | apply Kd.R_alloc | apply Kd.R_drewN | apply Kd.R_drew)); exact HO182.out)); (case aS => exact (below_size (by repeat (first | (with_reducible first | exact HB.out | apply below_alloc | apply pw_below_drewN | apply below_drew1) | exact HB.out)))); (case aL => have := LMc26.out; omega); intro v184 w39 ho hb hg hat; rw [← Ny183.out] at ho; have n0_ := Aside0.mk (Kd.R_over' (by (with_reducible repeat (first | apply Kd.R_alloc | apply Kd.R_drewN | apply Kd.R_drew)); exact HO174.out) (Kd.R_typed (by (with_reducible repeat (first | apply Kd.R_alloc | apply Kd.R_drewN | apply Kd.R_drew)); exact HO182.out)) (by decide) hg); have n1_ := Aside0.mk (Kd.R_over' (by (with_reducible repeat (first | apply Kd.R_alloc | apply Kd.R_drewN | apply Kd.R_drew)); exact HO177.out) (Kd.R_typed (by (with_reducible repeat (first | apply Kd.R_alloc | apply Kd.R_drewN | apply Kd.R_drew)); exact HO182.out)) (by decide) hg); have n2_ := Aside0.mk (hb); have n3_ := Aside0.mk (ho); clear HO174; clear HO177; clear HB; clear HO182; have HO174 := n0_; have HO177 := n1_; have HB := n2_; have HO185 := n3_; clear n0_ n1_ n2_ n3_; clear ho hb hg hat) | ((with_reducible refine gate_dst (N := 59) rfl ?_); (try (refine gate_guard (by rfl) ?_; dsimp only)); refine Kd.R_lit (Kd.int .i64) _ 3 ?hg (N := 59) ?hd (xs := ([] : List Int)) (inner := []) (ok := fun _ => True) (okp := fun _ => True) ?hr ?hp (fun _ hk => hk) trivial (Below.refl _ _) (Nat.le_refl _) (by simp) ?_; (case hd => rfl); (case hg => rfl); (case hr => first | (go_simp; done) | (go_simp; rfl)); (case hp => exact (Reps.none _ _)); intro v187 w40 ho41 hb hg_ hnew_; clear hg_ hnew_; (first | rw [← Ny186.out] at ho41 | (simp only [Int.reduceToNat] at ho41; rw [← Ny186.out] at ho41)); have n0_ := Aside0.mk (Kd.R_below (by (with_reducible repeat (first | apply Kd.R_alloc | apply Kd.R_drewN | apply Kd.R_drew)); exact HO174.out) hb); have n1_ := Aside0.mk (Kd.R_below (by (with_reducible repeat (first | apply Kd.R_alloc | apply Kd.R_drewN | apply Kd.R_drew)); exact HO177.out) hb); have n2_ := Aside0.mk (Kd.R_elder' (by (with_reducible repeat (first | apply Kd.R_alloc | apply Kd.R_drewN | apply Kd.R_drew)); exact HO185.out) (Kd.R_base ho41) hb); have n3_ := Aside0.mk (Kd.R_lower (Kd.R_new' ho41 (Kd.R_lt (by (with_reducible repeat (first | apply Kd.R_alloc | apply Kd.R_drewN | apply Kd.R_drew)); exact HO185.out))) (below_size (by repeat (first | (with_reducible first | exact HB.out | apply below_alloc | apply pw_below_drewN | apply below_drew1) | exact HB.out)))); have n4_ := Aside0.mk (below_step (by repeat (first | (with_reducible first | exact HB.out | apply below_alloc | apply pw_below_drewN | apply below_drew1) | exact HB.out)) hb); clear HO174; clear HO177; clear HO185; clear HB; have HO174 := n0_; have HO177 := n1_; have HO185 := n2_; have HO188 := n3_; have HB := n4_; clear n0_ n1_ n2_ n3_ n4_; clear hb ho41) | ((with_reducible refine gate_builtin (b := .append) (xs := #[.tmp 59, .tmp 60]) rfl ?_); (try (refine gate_guard (by rfl) ?_; dsimp only)); at_builtin; refine Kd.R_append_rows (Kd.int .i64) (w0 := w) w.heap.size rfl (.tmp 59) (.tmp 60) 23 3 (.int .i64 0) 8 rfl Try.underlying23 info3 rfl (by decide) (by omega) v187 y186 l3 _ _ _ (fun k_ => some k_ ≠ (v184 : Value).ownBlock) (fun _ => False) rfl rfl ?aO ?aR (fun _ _ h => h) (fun _ h => h.elim) ?aF ?aB ?aS ?aL ?_; (case aR => repeat (first | exact (Kd.C_below HR3.out HB.out) | (with_reducible refine Kd.C_alloc ?_ _) | (with_reducible refine Kd.C_drewN ?_ _) | (with_reducible refine Kd.C_drew ?_))); (case aB => exact (by repeat (first | (with_reducible first | exact HB.out | apply below_alloc | apply pw_below_drewN | apply below_drew1) | exact HB.out))); (case aF => exact (fun k_ hk => Kd.fresh' (Kd.R_lt (by (with_reducible repeat (first | apply Kd.R_alloc | apply Kd.R_drewN | apply Kd.R_drew)); exact HO185.out)) k_ hk)); (case aO => exact (by (with_reducible repeat (first | apply Kd.R_alloc | apply Kd.R_drewN | apply Kd.R_drew)); exact Kd.R_mono HO188.out (fun _ hk => hk.2))); (case aS => exact (below_size (by repeat (first | (with_reducible first | exact HB.out | apply below_alloc | apply pw_below_drewN | apply below_drew1) | exact HB.out)))); (case aL => have := LMc27.out; omega); intro v190 w42 ho hb hg hat; rw [← Ny189.out] at ho; have n0_ := Aside0.mk (Kd.R_over' (by (with_reducible repeat (first | apply Kd.R_alloc | apply Kd.R_drewN | apply Kd.R_drew)); exact HO174.out) (Kd.R_typed (by (with_reducible repeat (first | apply Kd.R_alloc | apply Kd.R_drewN | apply Kd.R_drew)); exact HO188.out)) (by decide) hg); have n1_ := Aside0.mk (Kd.R_over' (by (with_reducible repeat (first | apply Kd.R_alloc | apply Kd.R_drewN | apply Kd.R_drew)); exact HO177.out) (Kd.R_typed (by (with_reducible repeat (first | apply Kd.R_alloc | apply Kd.R_drewN | apply Kd.R_drew)); exact HO188.out)) (by decide) hg); have n2_ := Aside0.mk (Kd.R_after (ok := (fun _ => True)) (by (with_reducible repeat (first | apply Kd.R_alloc | apply Kd.R_drewN | apply Kd.R_drew)); exact HO185.out) hg hat); have n3_ := Aside0.mk (hb); have n4_ := Aside0.mk (ho); clear HO174; clear HO177; clear HO185; clear HB; clear HO188; have HO174 := n0_; have HO177 := n1_; have HO185 := n2_; have HB := n3_; have HO191 := n4_; clear n0_ n1_ n2_ n3_ n4_; clear ho hb hg hat; obtain ⟨Ao43, co43, eo43⟩ := Kd.R_slice HO185.out; subst eo43; obtain ⟨Ao44, co44, eo44⟩ := Kd.R_slice HO191.out; subst eo44) | (go_at_call 13; (with_reducible refine (impl_SetEqualsInt.calls kj11 _ _ y183 _ _ y189 t192 _ ?side1 ?side2 ?side3 ?side4 A28.out).mono ?_); (case side1 => repeat (first | exact (Kd.R_reads' HO185.out).2.2 | (with_reducible refine Kd.C_alloc ?_ _) | (with_reducible refine Kd.C_drewN ?_ _) | (with_reducible refine Kd.C_drew ?_))); (case side2 => exact (Kd.R_reads' HO185.out).2.1); (case side3 => repeat (first | exact (Kd.R_reads' HO191.out).2.2 | (with_reducible refine Kd.C_alloc ?_ _) | (with_reducible refine Kd.C_drewN ?_ _) | (with_reducible refine Kd.C_drew ?_))); (case side4 => exact (Kd.R_reads' HO191.out).2.1); rintro e w45 ⟨rfl, hb⟩; have n0_ := Aside0.mk (Kd.R_below (by (with_reducible repeat (first | apply Kd.R_alloc | apply Kd.R_drewN | apply Kd.R_drew)); exact HO174.out) hb); have n1_ := Aside0.mk (Kd.R_below (by (with_reducible repeat (first | apply Kd.R_alloc | apply Kd.R_drewN | apply Kd.R_drew)); exact HO177.out) hb); have n2_ := Aside0.mk (Kd.R_below (by (with_reducible repeat (first | apply Kd.R_alloc | apply Kd.R_drewN | apply Kd.R_drew)); exact HO185.out) hb); have n3_ := Aside0.mk (Kd.R_below (by (with_reducible repeat (first | apply Kd.R_alloc | apply Kd.R_drewN | apply Kd.R_drew)); exact HO191.out) hb); have n4_ := Aside0.mk (below_step (by repeat (first | (with_reducible first | exact HB.out | apply below_alloc | apply pw_below_drewN | apply below_drew1) | exact HB.out)) hb); clear HO174; clear HO177; clear HO185; clear HO191; clear HB; have HO174 := n0_; have HO177 := n1_; have HO185 := n2_; have HO191 := n3_; have HB := n4_; clear n0_ n1_ n2_ n3_ n4_; (try clear hb); (try clear hb2); (try clear hk); (try clear hi)) | (go_at_call 14; (with_reducible refine (spec_SameInts.calls kj11 _ _ l2 _ _ l3 t193 _ ?side1 ?side2 ?side3 ?side4 A29.out).mono ?_); (case side1 => repeat (first | exact (Kd.C_below HR2.out HB.out) | (with_reducible refine Kd.C_alloc ?_ _) | (with_reducible refine Kd.C_drewN ?_ _) | (with_reducible refine Kd.C_drew ?_))); (case side2 => exact HC2.out); (case side3 => repeat (first | exact (Kd.C_below HR3.out HB.out) | (with_reducible refine Kd.C_alloc ?_ _) | (with_reducible refine Kd.C_drewN ?_ _) | (with_reducible refine Kd.C_drew ?_))); (case side4 => exact HC3.out); rintro e w' ⟨rfl, ⟨nd, rfl⟩⟩) | (go_at_call 9; (with_reducible refine (laws_awakeUtil.calls kj11  t194 _ A31.out).mono ?_); rintro e w46 ⟨rfl, hb⟩; have n0_ := Aside0.mk (Kd.R_below (by (with_reducible repeat (first | apply Kd.R_alloc | apply Kd.R_drewN | apply Kd.R_drew)); exact HO174.out) hb); have n1_ := Aside0.mk (Kd.R_below (by (with_reducible repeat (first | apply Kd.R_alloc | apply Kd.R_drewN | apply Kd.R_drew)); exact HO177.out) hb); have n2_ := Aside0.mk (Kd.R_below (by (with_reducible repeat (first | apply Kd.R_alloc | apply Kd.R_drewN | apply Kd.R_drew)); exact HO185.out) hb); have n3_ := Aside0.mk (Kd.R_below (by (with_reducible repeat (first | apply Kd.R_alloc | apply Kd.R_drewN | apply Kd.R_drew)); exact HO191.out) hb); have n4_ := Aside0.mk (below_step (by repeat (first | (with_reducible first | exact HB.out | apply below_alloc | apply pw_below_drewN | apply below_drew1) | exact HB.out)) hb); clear HO174; clear HO177; clear HO185; clear HO191; clear HB; have HO174 := n0_; have HO177 := n1_; have HO185 := n2_; have HO191 := n3_; have HB := n4_; clear n0_ n1_ n2_ n3_ n4_; (try clear hb); (try clear hb2); (try clear hk); (try clear hi)))
                      go_ret
                      exact ⟨by first | rfl | (simp [errW_none, errW_some] <;> rfl) | (simp [*, errW_none, errW_some] <;> rfl), by repeat (first | (with_reducible first | exact HB.out | apply below_alloc | apply pw_below_drewN | apply below_drew1) | exact HB.out)⟩
                    · rw [if_neg c30] at H
                      have c30b0 : (t192 == t193) = false := by simpa using c30
                      (try (have c30b1 : decide (t192 = t193) = false := by simpa using c30))
                      (try (have c30b2 : (t192 == t193) = false := by simpa using c30))
                      (try (have c30b3 : ¬ (t192 = t193) := by simpa using c30))
                      clear c30
                      obtain rfl := Option.some.inj H
                      go_wp2_with (first | ((with_reducible refine gate_callee (f := 11) rfl ?_); refine goesL_ (some 47) rfl rfl Try.func11 (by kernel_rfl) rfl #[.slice A0 l0.length c0] rfl (by (try simp only [List.map_toArray, List.map_cons, List.map_nil]); first | done | rfl | (simp only [List.length_drop, List.length_take]; rfl)) ?_; (with_reducible refine (laws_copied.calls _ _ l0 t172 _ ?side1 ?side2 A21.out).mono ?_); (case side1 => repeat (first | exact (Kd.C_below HR0.out HB.out) | (with_reducible refine Kd.C_alloc ?_ _) | (with_reducible refine Kd.C_drewN ?_ _) | (with_reducible refine Kd.C_drew ?_))); (case side2 => exact HC0.out); rintro e w47 ⟨v173, rfl, ho0, hb⟩; refine ⟨_, rfl, ?_⟩; have n0_ := Aside0.mk (Kd.R_lower ho0 (below_size (by repeat (first | (with_reducible first | exact HB.out | apply below_alloc | apply pw_below_drewN | apply below_drew1) | exact HB.out)))); have n1_ := Aside0.mk (below_step (by repeat (first | (with_reducible first | exact HB.out | apply below_alloc | apply pw_below_drewN | apply below_drew1) | exact HB.out)) hb); clear HB; have HO174 := n0_; have HB := n1_; clear n0_ n1_; (try clear hb); (try clear hb2); (try clear hk); (try clear hi); (try clear ho0)) | ((with_reducible refine gate_callee (f := 11) rfl ?_); refine goesL_ (some 49) rfl rfl Try.func11 (by kernel_rfl) rfl #[.slice A1 l1.length c1] rfl (by (try simp only [List.map_toArray, List.map_cons, List.map_nil]); first | done | rfl | (simp only [List.length_drop, List.length_take]; rfl)) ?_; (with_reducible refine (laws_copied.calls _ _ l1 t175 _ ?side1 ?side2 A22.out).mono ?_); (case side1 => repeat (first | exact (Kd.C_below HR1.out HB.out) | (with_reducible refine Kd.C_alloc ?_ _) | (with_reducible refine Kd.C_drewN ?_ _) | (with_reducible refine Kd.C_drew ?_))); (case side2 => exact HC1.out); rintro e w48 ⟨v176, rfl, ho0, hb⟩; refine ⟨_, rfl, ?_⟩; have n0_ := Aside0.mk (Kd.R_elder' (by (with_reducible repeat (first | apply Kd.R_alloc | apply Kd.R_drewN | apply Kd.R_drew)); exact HO174.out) (Kd.R_base ho0) hb); have n1_ := Aside0.mk (Kd.R_lower (Kd.R_new' ho0 (Kd.R_lt (by (with_reducible repeat (first | apply Kd.R_alloc | apply Kd.R_drewN | apply Kd.R_drew)); exact HO174.out))) (below_size (by repeat (first | (with_reducible first | exact HB.out | apply below_alloc | apply pw_below_drewN | apply below_drew1) | exact HB.out)))); have n2_ := Aside0.mk (below_step (by repeat (first | (with_reducible first | exact HB.out | apply below_alloc | apply pw_below_drewN | apply below_drew1) | exact HB.out)) hb); clear HO174; clear HB; have HO174 := n0_; have HO177 := n1_; have HB := n2_; clear n0_ n1_ n2_; (try clear hb); (try clear hb2); (try clear hk); (try clear hi); (try clear ho0); obtain ⟨Ao49, co49, eo49⟩ := Kd.R_slice HO174.out; subst eo49; obtain ⟨Ao50, co50, eo50⟩ := Kd.R_slice HO177.out; subst eo50) | ((with_reducible refine gate_callee (f := 10) rfl ?_); refine goesL_ (some 50) rfl rfl Try.func10 (by kernel_rfl) rfl #[.slice Ao49 t172.length co49, .slice Ao50 t175.length co50] rfl (by (try simp only [List.map_toArray, List.map_cons, List.map_nil]); first | done | rfl | (simp only [List.length_drop, List.length_take]; rfl)) ?_; (with_reducible refine (impl_SetEquals.calls kj11 _ _ t172 _ _ t175 t178 _ ?side1 ?side2 ?side3 ?side4 A23.out).mono ?_); (case side1 => repeat (first | exact (Kd.R_reads' HO174.out).2.2 | (with_reducible refine Kd.C_alloc ?_ _) | (with_reducible refine Kd.C_drewN ?_ _) | (with_reducible refine Kd.C_drew ?_))); (case side2 => exact (Kd.R_reads' HO174.out).2.1); (case side3 => repeat (first | exact (Kd.R_reads' HO177.out).2.2 | (with_reducible refine Kd.C_alloc ?_ _) | (with_reducible refine Kd.C_drewN ?_ _) | (with_reducible refine Kd.C_drew ?_))); (case side4 => exact (Kd.R_reads' HO177.out).2.1); rintro e w51 ⟨rfl, hb⟩; refine ⟨_, rfl, ?_⟩; have n0_ := Aside0.mk (Kd.R_below (by (with_reducible repeat (first | apply Kd.R_alloc | apply Kd.R_drewN | apply Kd.R_drew)); exact HO174.out) hb); have n1_ := Aside0.mk (Kd.R_below (by (with_reducible repeat (first | apply Kd.R_alloc | apply Kd.R_drewN | apply Kd.R_drew)); exact HO177.out) hb); have n2_ := Aside0.mk (below_step (by repeat (first | (with_reducible first | exact HB.out | apply below_alloc | apply pw_below_drewN | apply below_drew1) | exact HB.out)) hb); clear HO174; clear HO177; clear HB; have HO174 := n0_; have HO177 := n1_; have HB := n2_; clear n0_ n1_ n2_; (try clear hb); (try clear hb2); (try clear hk); (try clear hi)) | ((with_reducible refine gate_callee (f := 12) rfl ?_); refine goesL_ (some 53) rfl rfl Try.func12 (by kernel_rfl) rfl #[.slice A0 l0.length c0, .slice A1 l1.length c1] rfl (by (try simp only [List.map_toArray, List.map_cons, List.map_nil]); first | done | rfl | (simp only [List.length_drop, List.length_take]; rfl)) ?_; (with_reducible refine (spec_SameBag.calls kj11 _ _ l0 _ _ l1 t179 _ ?side1 ?side2 ?side3 ?side4 A24.out).mono ?_); (case side1 => repeat (first | exact (Kd.C_below HR0.out HB.out) | (with_reducible refine Kd.C_alloc ?_ _) | (with_reducible refine Kd.C_drewN ?_ _) | (with_reducible refine Kd.C_drew ?_))); (case side2 => exact HC0.out); (case side3 => repeat (first | exact (Kd.C_below HR1.out HB.out) | (with_reducible refine Kd.C_alloc ?_ _) | (with_reducible refine Kd.C_drewN ?_ _) | (with_reducible refine Kd.C_drew ?_))); (case side4 => exact HC1.out); rintro e w' ⟨rfl, ⟨nd, rfl⟩⟩; refine ⟨_, rfl, ?_⟩) | ((with_reducible refine gate_dst (N := 56) rfl ?_); (try (refine gate_guard (by rfl) ?_; dsimp only)); refine Kd.R_lit (Kd.int .i64) _ 3 ?hg (N := 56) ?hd (xs := ([] : List Int)) (inner := []) (ok := fun _ => True) (okp := fun _ => True) ?hr ?hp (fun _ hk => hk) trivial (Below.refl _ _) (Nat.le_refl _) (by simp) ?_; (case hd => rfl); (case hg => rfl); (case hr => first | (go_simp; done) | (go_simp; rfl)); (case hp => exact (Reps.none _ _)); intro v181 w52 ho53 hb hg_ hnew_; clear hg_ hnew_; (first | rw [← Ny180.out] at ho53 | (simp only [Int.reduceToNat] at ho53; rw [← Ny180.out] at ho53)); have n0_ := Aside0.mk (Kd.R_below (by (with_reducible repeat (first | apply Kd.R_alloc | apply Kd.R_drewN | apply Kd.R_drew)); exact HO174.out) hb); have n1_ := Aside0.mk (Kd.R_below (by (with_reducible repeat (first | apply Kd.R_alloc | apply Kd.R_drewN | apply Kd.R_drew)); exact HO177.out) hb); have n2_ := Aside0.mk (Kd.R_lower ho53 (below_size (by repeat (first | (with_reducible first | exact HB.out | apply below_alloc | apply pw_below_drewN | apply below_drew1) | exact HB.out)))); have n3_ := Aside0.mk (below_step (by repeat (first | (with_reducible first | exact HB.out | apply below_alloc | apply pw_below_drewN | apply below_drew1) | exact HB.out)) hb); clear HO174; clear HO177; clear HB; have HO174 := n0_; have HO177 := n1_; have HO182 := n2_; have HB := n3_; clear n0_ n1_ n2_ n3_; clear hb ho53) | ((with_reducible refine gate_builtin (b := .append) (xs := #[.tmp 56, .tmp 57]) rfl ?_); (try (refine gate_guard (by rfl) ?_; dsimp only)); at_builtin; refine Kd.R_append_rows (Kd.int .i64) (w0 := w) w.heap.size rfl (.tmp 56) (.tmp 57) 23 3 (.int .i64 0) 8 rfl Try.underlying23 info3 rfl (by decide) (by omega) v181 y180 l2 _ _ _ (fun _ => True) (fun _ => False) rfl rfl ?aO ?aR (fun _ _ h => h) (fun _ h => h.elim) ?aF ?aB ?aS ?aL ?_; (case aR => repeat (first | exact (Kd.C_below HR2.out HB.out) | (with_reducible refine Kd.C_alloc ?_ _) | (with_reducible refine Kd.C_drewN ?_ _) | (with_reducible refine Kd.C_drew ?_))); (case aB => exact (by repeat (first | (with_reducible first | exact HB.out | apply below_alloc | apply pw_below_drewN | apply below_drew1) | exact HB.out))); (case aF => exact (fun _ _ => trivial)); (case aO => exact (by (with_reducible repeat (first | apply Kd.R_alloc | apply Kd.R_drewN | apply Kd.R_drew)); exact HO182.out)); (case aS => exact (below_size (by repeat (first | (with_reducible first | exact HB.out | apply below_alloc | apply pw_below_drewN | apply below_drew1) | exact HB.out)))); (case aL => have := LMc26.out; omega); intro v184 w54 ho hb hg hat; rw [← Ny183.out] at ho; have n0_ := Aside0.mk (Kd.R_over' (by (with_reducible repeat (first | apply Kd.R_alloc | apply Kd.R_drewN | apply Kd.R_drew)); exact HO174.out) (Kd.R_typed (by (with_reducible repeat (first | apply Kd.R_alloc | apply Kd.R_drewN | apply Kd.R_drew)); exact HO182.out)) (by decide) hg); have n1_ := Aside0.mk (Kd.R_over' (by (with_reducible repeat (first | apply Kd.R_alloc | apply Kd.R_drewN | apply Kd.R_drew)); exact HO177.out) (Kd.R_typed (by (with_reducible repeat (first | apply Kd.R_alloc | apply Kd.R_drewN | apply Kd.R_drew)); exact HO182.out)) (by decide) hg); have n2_ := Aside0.mk (hb); have n3_ := Aside0.mk (ho); clear HO174; clear HO177; clear HB; clear HO182; have HO174 := n0_; have HO177 := n1_; have HB := n2_; have HO185 := n3_; clear n0_ n1_ n2_ n3_; clear ho hb hg hat) | ((with_reducible refine gate_dst (N := 59) rfl ?_); (try (refine gate_guard (by rfl) ?_; dsimp only)); refine Kd.R_lit (Kd.int .i64) _ 3 ?hg (N := 59) ?hd (xs := ([] : List Int)) (inner := []) (ok := fun _ => True) (okp := fun _ => True) ?hr ?hp (fun _ hk => hk) trivial (Below.refl _ _) (Nat.le_refl _) (by simp) ?_; (case hd => rfl); (case hg => rfl); (case hr => first | (go_simp; done) | (go_simp; rfl)); (case hp => exact (Reps.none _ _)); intro v187 w55 ho56 hb hg_ hnew_; clear hg_ hnew_; (first | rw [← Ny186.out] at ho56 | (simp only [Int.reduceToNat] at ho56; rw [← Ny186.out] at ho56)); have n0_ := Aside0.mk (Kd.R_below (by (with_reducible repeat (first | apply Kd.R_alloc | apply Kd.R_drewN | apply Kd.R_drew)); exact HO174.out) hb); have n1_ := Aside0.mk (Kd.R_below (by (with_reducible repeat (first | apply Kd.R_alloc | apply Kd.R_drewN | apply Kd.R_drew)); exact HO177.out) hb); have n2_ := Aside0.mk (Kd.R_elder' (by (with_reducible repeat (first | apply Kd.R_alloc | apply Kd.R_drewN | apply Kd.R_drew)); exact HO185.out) (Kd.R_base ho56) hb); have n3_ := Aside0.mk (Kd.R_lower (Kd.R_new' ho56 (Kd.R_lt (by (with_reducible repeat (first | apply Kd.R_alloc | apply Kd.R_drewN | apply Kd.R_drew)); exact HO185.out))) (below_size (by repeat (first | (with_reducible first | exact HB.out | apply below_alloc | apply pw_below_drewN | apply below_drew1) | exact HB.out)))); have n4_ := Aside0.mk (below_step (by repeat (first | (with_reducible first | exact HB.out | apply below_alloc | apply pw_below_drewN | apply below_drew1) | exact HB.out)) hb); clear HO174; clear HO177; clear HO185; clear HB; have HO174 := n0_; have HO177 := n1_; have HO185 := n2_; have HO188 := n3_; have HB := n4_; clear n0_ n1_ n2_ n3_ n4_; clear hb ho56) | ((with_reducible refine gate_builtin (b := .append) (xs := #[.tmp 59, .tmp 60]) rfl ?_); (try (refine gate_guard (by rfl) ?_; dsimp only)); at_builtin; refine Kd.R_append_rows (Kd.int .i64) (w0 := w) w.heap.size rfl (.tmp 59) (.tmp 60) 23 3 (.int .i64 0) 8 rfl Try.underlying23 info3 rfl (by decide) (by omega) v187 y186 l3 _ _ _ (fun k_ => some k_ ≠ (v184 : Value).ownBlock) (fun _ => False) rfl rfl ?aO ?aR (fun _ _ h => h) (fun _ h => h.elim) ?aF ?aB ?aS ?aL ?_; (case aR => repeat (first | exact (Kd.C_below HR3.out HB.out) | (with_reducible refine Kd.C_alloc ?_ _) | (with_reducible refine Kd.C_drewN ?_ _) | (with_reducible refine Kd.C_drew ?_))); (case aB => exact (by repeat (first | (with_reducible first | exact HB.out | apply below_alloc | apply pw_below_drewN | apply below_drew1) | exact HB.out))); (case aF => exact (fun k_ hk => Kd.fresh' (Kd.R_lt (by (with_reducible repeat (first | apply Kd.R_alloc | apply Kd.R_drewN | apply Kd.R_drew)); exact HO185.out)) k_ hk)); (case aO => exact (by (with_reducible repeat (first | apply Kd.R_alloc | apply Kd.R_drewN | apply Kd.R_drew)); exact Kd.R_mono HO188.out (fun _ hk => hk.2))); (case aS => exact (below_size (by repeat (first | (with_reducible first | exact HB.out | apply below_alloc | apply pw_below_drewN | apply below_drew1) | exact HB.out)))); (case aL => have := LMc27.out; omega); intro v190 w57 ho hb hg hat; rw [← Ny189.out] at ho; have n0_ := Aside0.mk (Kd.R_over' (by (with_reducible repeat (first | apply Kd.R_alloc | apply Kd.R_drewN | apply Kd.R_drew)); exact HO174.out) (Kd.R_typed (by (with_reducible repeat (first | apply Kd.R_alloc | apply Kd.R_drewN | apply Kd.R_drew)); exact HO188.out)) (by decide) hg); have n1_ := Aside0.mk (Kd.R_over' (by (with_reducible repeat (first | apply Kd.R_alloc | apply Kd.R_drewN | apply Kd.R_drew)); exact HO177.out) (Kd.R_typed (by (with_reducible repeat (first | apply Kd.R_alloc | apply Kd.R_drewN | apply Kd.R_drew)); exact HO188.out)) (by decide) hg); have n2_ := Aside0.mk (Kd.R_after (ok := (fun _ => True)) (by (with_reducible repeat (first | apply Kd.R_alloc | apply Kd.R_drewN | apply Kd.R_drew)); exact HO185.out) hg hat); have n3_ := Aside0.mk (hb); have n4_ := Aside0.mk (ho); clear HO174; clear HO177; clear HO185; clear HB; clear HO188; have HO174 := n0_; have HO177 := n1_; have HO185 := n2_; have HB := n3_; have HO191 := n4_; clear n0_ n1_ n2_ n3_ n4_; clear ho hb hg hat; obtain ⟨Ao58, co58, eo58⟩ := Kd.R_slice HO185.out; subst eo58; obtain ⟨Ao59, co59, eo59⟩ := Kd.R_slice HO191.out; subst eo59) | (go_at_call 13; (with_reducible refine (impl_SetEqualsInt.calls kj11 _ _ y183 _ _ y189 t192 _ ?side1 ?side2 ?side3 ?side4 A28.out).mono ?_); (case side1 => repeat (first | exact (Kd.R_reads' HO185.out).2.2 | (with_reducible refine Kd.C_alloc ?_ _) | (with_reducible refine Kd.C_drewN ?_ _) | (with_reducible refine Kd.C_drew ?_))); (case side2 => exact (Kd.R_reads' HO185.out).2.1); (case side3 => repeat (first | exact (Kd.R_reads' HO191.out).2.2 | (with_reducible refine Kd.C_alloc ?_ _) | (with_reducible refine Kd.C_drewN ?_ _) | (with_reducible refine Kd.C_drew ?_))); (case side4 => exact (Kd.R_reads' HO191.out).2.1); rintro e w60 ⟨rfl, hb⟩; have n0_ := Aside0.mk (Kd.R_below (by (with_reducible repeat (first | apply Kd.R_alloc | apply Kd.R_drewN | apply Kd.R_drew)); exact HO174.out) hb); have n1_ := Aside0.mk (Kd.R_below (by (with_reducible repeat (first | apply Kd.R_alloc | apply Kd.R_drewN | apply Kd.R_drew)); exact HO177.out) hb); have n2_ := Aside0.mk (Kd.R_below (by (with_reducible repeat (first | apply Kd.R_alloc | apply Kd.R_drewN | apply Kd.R_drew)); exact HO185.out) hb); have n3_ := Aside0.mk (Kd.R_below (by (with_reducible repeat (first | apply Kd.R_alloc | apply Kd.R_drewN | apply Kd.R_drew)); exact HO191.out) hb); have n4_ := Aside0.mk (below_step (by repeat (first | (with_reducible first | exact HB.out | apply below_alloc | apply pw_below_drewN | apply below_drew1) | exact HB.out)) hb); clear HO174; clear HO177; clear HO185; clear HO191; clear HB; have HO174 := n0_; have HO177 := n1_; have HO185 := n2_; have HO191 := n3_; have HB := n4_; clear n0_ n1_ n2_ n3_ n4_; (try clear hb); (try clear hb2); (try clear hk); (try clear hi)) | (go_at_call 14; (with_reducible refine (spec_SameInts.calls kj11 _ _ l2 _ _ l3 t193 _ ?side1 ?side2 ?side3 ?side4 A29.out).mono ?_); (case side1 => repeat (first | exact (Kd.C_below HR2.out HB.out) | (with_reducible refine Kd.C_alloc ?_ _) | (with_reducible refine Kd.C_drewN ?_ _) | (with_reducible refine Kd.C_drew ?_))); (case side2 => exact HC2.out); (case side3 => repeat (first | exact (Kd.C_below HR3.out HB.out) | (with_reducible refine Kd.C_alloc ?_ _) | (with_reducible refine Kd.C_drewN ?_ _) | (with_reducible refine Kd.C_drew ?_))); (case side4 => exact HC3.out); rintro e w' ⟨rfl, ⟨nd, rfl⟩⟩))
                      go_ret
                      exact ⟨by first | rfl | (simp [errW_none, errW_some] <;> rfl) | (simp [*, errW_none, errW_some] <;> rfl), by repeat (first | (with_reducible first | exact HB.out | apply below_alloc | apply pw_below_drewN | apply below_drew1) | exact HB.out)⟩
                  · rw [if_neg c27] at H
                    exact absurd H (by simp)
                · rw [if_neg c26] at H
                  exact absurd H (by simp)
              · rw [if_neg c25] at H
                have c25b0 : (t178 == t179) = false := by simpa using c25
                (try (have c25b1 : decide (t178 = t179) = false := by simpa using c25))
                (try (have c25b2 : (t178 == t179) = false := by simpa using c25))
                (try (have c25b3 : ¬ (t178 = t179) := by simpa using c25))
                clear c25
                obtain rfl := Option.some.inj H
                go_wp2_with (first | ((with_reducible refine gate_callee (f := 11) rfl ?_); refine goesL_ (some 47) rfl rfl Try.func11 (by kernel_rfl) rfl #[.slice A0 l0.length c0] rfl (by (try simp only [List.map_toArray, List.map_cons, List.map_nil]); first | done | rfl | (simp only [List.length_drop, List.length_take]; rfl)) ?_; (with_reducible refine (laws_copied.calls _ _ l0 t172 _ ?side1 ?side2 A21.out).mono ?_); (case side1 => repeat (first | exact (Kd.C_below HR0.out HB.out) | (with_reducible refine Kd.C_alloc ?_ _) | (with_reducible refine Kd.C_drewN ?_ _) | (with_reducible refine Kd.C_drew ?_))); (case side2 => exact HC0.out); rintro e w61 ⟨v173, rfl, ho0, hb⟩; refine ⟨_, rfl, ?_⟩; have n0_ := Aside0.mk (Kd.R_lower ho0 (below_size (by repeat (first | (with_reducible first | exact HB.out | apply below_alloc | apply pw_below_drewN | apply below_drew1) | exact HB.out)))); have n1_ := Aside0.mk (below_step (by repeat (first | (with_reducible first | exact HB.out | apply below_alloc | apply pw_below_drewN | apply below_drew1) | exact HB.out)) hb); clear HB; have HO174 := n0_; have HB := n1_; clear n0_ n1_; (try clear hb); (try clear hb2); (try clear hk); (try clear hi); (try clear ho0)) | ((with_reducible refine gate_callee (f := 11) rfl ?_); refine goesL_ (some 49) rfl rfl Try.func11 (by kernel_rfl) rfl #[.slice A1 l1.length c1] rfl (by (try simp only [List.map_toArray, List.map_cons, List.map_nil]); first | done | rfl | (simp only [List.length_drop, List.length_take]; rfl)) ?_; (with_reducible refine (laws_copied.calls _ _ l1 t175 _ ?side1 ?side2 A22.out).mono ?_); (case side1 => repeat (first | exact (Kd.C_below HR1.out HB.out) | (with_reducible refine Kd.C_alloc ?_ _) | (with_reducible refine Kd.C_drewN ?_ _) | (with_reducible refine Kd.C_drew ?_))); (case side2 => exact HC1.out); rintro e w62 ⟨v176, rfl, ho0, hb⟩; refine ⟨_, rfl, ?_⟩; have n0_ := Aside0.mk (Kd.R_elder' (by (with_reducible repeat (first | apply Kd.R_alloc | apply Kd.R_drewN | apply Kd.R_drew)); exact HO174.out) (Kd.R_base ho0) hb); have n1_ := Aside0.mk (Kd.R_lower (Kd.R_new' ho0 (Kd.R_lt (by (with_reducible repeat (first | apply Kd.R_alloc | apply Kd.R_drewN | apply Kd.R_drew)); exact HO174.out))) (below_size (by repeat (first | (with_reducible first | exact HB.out | apply below_alloc | apply pw_below_drewN | apply below_drew1) | exact HB.out)))); have n2_ := Aside0.mk (below_step (by repeat (first | (with_reducible first | exact HB.out | apply below_alloc | apply pw_below_drewN | apply below_drew1) | exact HB.out)) hb); clear HO174; clear HB; have HO174 := n0_; have HO177 := n1_; have HB := n2_; clear n0_ n1_ n2_; (try clear hb); (try clear hb2); (try clear hk); (try clear hi); (try clear ho0); obtain ⟨Ao63, co63, eo63⟩ := Kd.R_slice HO174.out; subst eo63; obtain ⟨Ao64, co64, eo64⟩ := Kd.R_slice HO177.out; subst eo64) | ((with_reducible refine gate_callee (f := 10) rfl ?_); refine goesL_ (some 50) rfl rfl Try.func10 (by kernel_rfl) rfl #[.slice Ao63 t172.length co63, .slice Ao64 t175.length co64] rfl (by (try simp only [List.map_toArray, List.map_cons, List.map_nil]); first | done | rfl | (simp only [List.length_drop, List.length_take]; rfl)) ?_; (with_reducible refine (impl_SetEquals.calls kj11 _ _ t172 _ _ t175 t178 _ ?side1 ?side2 ?side3 ?side4 A23.out).mono ?_); (case side1 => repeat (first | exact (Kd.R_reads' HO174.out).2.2 | (with_reducible refine Kd.C_alloc ?_ _) | (with_reducible refine Kd.C_drewN ?_ _) | (with_reducible refine Kd.C_drew ?_))); (case side2 => exact (Kd.R_reads' HO174.out).2.1); (case side3 => repeat (first | exact (Kd.R_reads' HO177.out).2.2 | (with_reducible refine Kd.C_alloc ?_ _) | (with_reducible refine Kd.C_drewN ?_ _) | (with_reducible refine Kd.C_drew ?_))); (case side4 => exact (Kd.R_reads' HO177.out).2.1); rintro e w65 ⟨rfl, hb⟩; refine ⟨_, rfl, ?_⟩; have n0_ := Aside0.mk (Kd.R_below (by (with_reducible repeat (first | apply Kd.R_alloc | apply Kd.R_drewN | apply Kd.R_drew)); exact HO174.out) hb); have n1_ := Aside0.mk (Kd.R_below (by (with_reducible repeat (first | apply Kd.R_alloc | apply Kd.R_drewN | apply Kd.R_drew)); exact HO177.out) hb); have n2_ := Aside0.mk (below_step (by repeat (first | (with_reducible first | exact HB.out | apply below_alloc | apply pw_below_drewN | apply below_drew1) | exact HB.out)) hb); clear HO174; clear HO177; clear HB; have HO174 := n0_; have HO177 := n1_; have HB := n2_; clear n0_ n1_ n2_; (try clear hb); (try clear hb2); (try clear hk); (try clear hi)) | ((with_reducible refine gate_callee (f := 12) rfl ?_); refine goesL_ (some 53) rfl rfl Try.func12 (by kernel_rfl) rfl #[.slice A0 l0.length c0, .slice A1 l1.length c1] rfl (by (try simp only [List.map_toArray, List.map_cons, List.map_nil]); first | done | rfl | (simp only [List.length_drop, List.length_take]; rfl)) ?_; (with_reducible refine (spec_SameBag.calls kj11 _ _ l0 _ _ l1 t179 _ ?side1 ?side2 ?side3 ?side4 A24.out).mono ?_); (case side1 => repeat (first | exact (Kd.C_below HR0.out HB.out) | (with_reducible refine Kd.C_alloc ?_ _) | (with_reducible refine Kd.C_drewN ?_ _) | (with_reducible refine Kd.C_drew ?_))); (case side2 => exact HC0.out); (case side3 => repeat (first | exact (Kd.C_below HR1.out HB.out) | (with_reducible refine Kd.C_alloc ?_ _) | (with_reducible refine Kd.C_drewN ?_ _) | (with_reducible refine Kd.C_drew ?_))); (case side4 => exact HC1.out); rintro e w' ⟨rfl, ⟨nd, rfl⟩⟩; refine ⟨_, rfl, ?_⟩))
                go_ret
                exact ⟨by first | rfl | (simp [errW_none, errW_some] <;> rfl) | (simp [*, errW_none, errW_some] <;> rfl), by repeat (first | (with_reducible first | exact HB.out | apply below_alloc | apply pw_below_drewN | apply below_drew1) | exact HB.out)⟩

end Go.Proofs.Ythmkbojkhoaolaa.PFnSetEquals
