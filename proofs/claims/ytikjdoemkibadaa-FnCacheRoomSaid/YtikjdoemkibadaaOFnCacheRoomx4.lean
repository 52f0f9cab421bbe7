/- The machine side of laws.FnCacheRoom: each function of this text answers what its Lean function answers (written for this claim by a program of this session over the kit's print; no condition beyond what each theorem says). -/
import Derived.Test.YtikjdoemkibadaaOFnCacheRoomx0
import Derived.Test.YtikjdoemkibadaaOFnCacheRoomx1
import Derived.Test.YtikjdoemkibadaaOFnCacheRoomx2
import Derived.Test.YtikjdoemkibadaaOFnCacheRoomx3
namespace Go.Proofs.Ytikjdoemkibadaa.PFnCacheRoom
open Go.RowKit Go.Proofs.YtikjdoemkibadaaW.PrintWords Go.Proofs.YtikjdoemkibadaaW.PrintLast Go.Proofs.YtikjdoemkibadaaW.PrintMore
attribute [local go_sem] max2_int min2_int max_two min_two max_three min_three max_four min_four   -- for this text's walks alone
set_option linter.unusedVariables false
set_option linter.unusedSimpArgs false

/-! ### laws_FnCacheRoom: function 4 -/
mutual
def laws_FnCacheRoom.j0 : Nat → Int → Int → List (S30) → Bool → Option (Bool)
  | 0, _, _, _, _ => none
  | k + 1, x0, x1, x2, x31 => if x31 = true then ((laws_awakeCache.f).bind fun t118 => (some t118)) else ((impl_Cache.f x0 x2).bind fun t119 => ((impl_Cache.f x1 x2).bind fun t122 => (if (t119.length : Int) = (x2.length : Int) then (laws_FnCacheRoom.j1 k x2 t119 t122 ((t122.length : Int) != (x2.length : Int))) else (laws_FnCacheRoom.j1 k x2 t119 t122 true))))
def laws_FnCacheRoom.j1 : Nat → List (S30) → List (S32) → List (S32) → Bool → Option (Bool)
  | 0, _, _, _, _ => none
  | k + 1, x2, x7, x8, x50 => if x50 = true then (some false) else (laws_FnCacheRoom.l0 k x2 x7 x8 0)
def laws_FnCacheRoom.l0 : Nat → List (S30) → List (S32) → List (S32) → Int → Option (Bool)
  | 0, _, _, _, _ => none
  | k + 1, x2, x7, x8, x9 => if x9 < (x2.length : Int) then (if 0 ≤ x9 then (if ((rd_T30 x2 x9).f0) = 0 then (laws_FnCacheRoom.l0 k x2 x7 x8 (wrap64 (x9 + 1))) else (laws_FnCacheRoom.l1 k x2 x7 x8 x9 0 false 0)) else (none)) else ((laws_awakeCache.f).bind fun t125 => (some t125))
def laws_FnCacheRoom.l1 : Nat → List (S30) → List (S32) → List (S32) → Int → Int → Bool → Int → Option (Bool)
  | 0, _, _, _, _, _, _, _ => none
  | k + 1, x2, x7, x8, x9, x10, x11, x12 => if x12 < x9 then (if 0 ≤ x12 then (if x12 < (x2.length : Int) then (if ((rd_T30 x2 x12).f0) = 0 then (if 0 ≤ x9 then (if x9 < (x2.length : Int) then (if ((rd_T30 x2 x12).f1) = ((rd_T30 x2 x9).f1) then (laws_FnCacheRoom.l1 k x2 x7 x8 x9 ((rd_T30 x2 x12).f2) true (wrap64 (x12 + 1))) else (laws_FnCacheRoom.l1 k x2 x7 x8 x9 x10 x11 (wrap64 (x12 + 1)))) else (none)) else (none)) else (laws_FnCacheRoom.l1 k x2 x7 x8 x9 x10 x11 (wrap64 (x12 + 1)))) else (none)) else (none)) else (if 0 ≤ x9 then (if x9 < (x7.length : Int) then (if (rd_T32 x7 x9).f0 = true then (if x9 < (x8.length : Int) then (if ((rd_T32 x8 x9).f0 = true) then (if (rd_T32 x8 x9).f0 = true then (if x11 = true then (if ((rd_T32 x8 x9).f1) = x10 then (if ((rd_T32 x7 x9).f1) = x10 then (laws_FnCacheRoom.l0 k x2 x7 x8 (wrap64 (x9 + 1))) else (some false)) else (some false)) else (some false)) else (if ((rd_T32 x7 x9).f1) = x10 then (laws_FnCacheRoom.l0 k x2 x7 x8 (wrap64 (x9 + 1))) else (some false))) else (some false)) else (none)) else (if x9 < (x8.length : Int) then (if (rd_T32 x8 x9).f0 = true then (if x11 = true then (if ((rd_T32 x8 x9).f1) = x10 then (laws_FnCacheRoom.l0 k x2 x7 x8 (wrap64 (x9 + 1))) else (some false)) else (some false)) else (laws_FnCacheRoom.l0 k x2 x7 x8 (wrap64 (x9 + 1)))) else (none))) else (none)) else (none))
end
def laws_FnCacheRoom.f (k : Nat) (a0 : Int) (a1 : Int) (l2 : List (S30)) : Option (Bool) := if (l2.length : Int) > 2147483647 then (some true) else (if a0 < 1 then (laws_FnCacheRoom.j0 k a0 a1 l2 true) else (if a1 < a0 then (laws_FnCacheRoom.j0 k a0 a1 l2 true) else (if a1 > 30 then (laws_FnCacheRoom.j0 k a0 a1 l2 true) else ((laws_puts.f k l2).bind fun t117 => (laws_FnCacheRoom.j0 k a0 a1 l2 (!t117))))))
theorem laws_FnCacheRoom.mono_l : ∀ k, (∀ y0 y1 y2 y3, LeO (laws_FnCacheRoom.j0 k y0 y1 y2 y3) (laws_FnCacheRoom.j0 (k + 1) y0 y1 y2 y3)) ∧ (∀ y0 y1 y2 y3, LeO (laws_FnCacheRoom.j1 k y0 y1 y2 y3) (laws_FnCacheRoom.j1 (k + 1) y0 y1 y2 y3)) ∧ (∀ y0 y1 y2 y3, LeO (laws_FnCacheRoom.l0 k y0 y1 y2 y3) (laws_FnCacheRoom.l0 (k + 1) y0 y1 y2 y3)) ∧ (∀ y0 y1 y2 y3 y4 y5 y6, LeO (laws_FnCacheRoom.l1 k y0 y1 y2 y3 y4 y5 y6) (laws_FnCacheRoom.l1 (k + 1) y0 y1 y2 y3 y4 y5 y6))
  | 0 => ⟨fun _ _ _ _ r h => by simp [laws_FnCacheRoom.j0] at h, fun _ _ _ _ r h => by simp [laws_FnCacheRoom.j1] at h, fun _ _ _ _ r h => by simp [laws_FnCacheRoom.l0] at h, fun _ _ _ _ _ _ _ r h => by simp [laws_FnCacheRoom.l1] at h⟩
  | k + 1 => by
    obtain ⟨ih0, ih1, ih2, ih3⟩ := laws_FnCacheRoom.mono_l k
    refine ⟨?_, ?_, ?_, ?_⟩
    · intro y0 y1 y2 y3
      unfold laws_FnCacheRoom.j0
      repeat' first
      | (with_reducible exact ih0 _ _ _ _)
      | (with_reducible exact ih1 _ _ _ _)
      | (with_reducible exact ih2 _ _ _ _)
      | (with_reducible exact ih3 _ _ _ _ _ _ _)
      | (with_reducible exact laws_puts.mono _ _)
      | (with_reducible exact LeO.refl _)
      | (with_reducible exact LeO.none _)
      | (with_reducible refine LeO.ite ?_ ?_)
      | (with_reducible refine LeO.bind ?_ (fun _ => ?_))
      | exact ih0 _ _ _ _
      | exact ih1 _ _ _ _
      | exact ih2 _ _ _ _
      | exact ih3 _ _ _ _ _ _ _
      | exact laws_puts.mono _ _
      | exact LeO.none _
      | refine LeO.ite ?_ ?_
      | refine LeO.bind ?_ (fun _ => ?_)
    · intro y0 y1 y2 y3
      unfold laws_FnCacheRoom.j1
      repeat' first
      | (with_reducible exact ih0 _ _ _ _)
      | (with_reducible exact ih1 _ _ _ _)
      | (with_reducible exact ih2 _ _ _ _)
      | (with_reducible exact ih3 _ _ _ _ _ _ _)
      | (with_reducible exact laws_puts.mono _ _)
      | (with_reducible exact LeO.refl _)
      | (with_reducible exact LeO.none _)
      | (with_reducible refine LeO.ite ?_ ?_)
      | (with_reducible refine LeO.bind ?_ (fun _ => ?_))
      | exact ih0 _ _ _ _
      | exact ih1 _ _ _ _
      | exact ih2 _ _ _ _
      | exact ih3 _ _ _ _ _ _ _
      | exact laws_puts.mono _ _
      | exact LeO.none _
      | refine LeO.ite ?_ ?_
      | refine LeO.bind ?_ (fun _ => ?_)
    · intro y0 y1 y2 y3
      unfold laws_FnCacheRoom.l0
      repeat' first
      | (with_reducible exact ih0 _ _ _ _)
      | (with_reducible exact ih1 _ _ _ _)
      | (with_reducible exact ih2 _ _ _ _)
      | (with_reducible exact ih3 _ _ _ _ _ _ _)
      | (with_reducible exact laws_puts.mono _ _)
      | (with_reducible exact LeO.refl _)
      | (with_reducible exact LeO.none _)
      | (with_reducible refine LeO.ite ?_ ?_)
      | (with_reducible refine LeO.bind ?_ (fun _ => ?_))
      | exact ih0 _ _ _ _
      | exact ih1 _ _ _ _
      | exact ih2 _ _ _ _
      | exact ih3 _ _ _ _ _ _ _
      | exact laws_puts.mono _ _
      | exact LeO.none _
      | refine LeO.ite ?_ ?_
      | refine LeO.bind ?_ (fun _ => ?_)
    · intro y0 y1 y2 y3 y4 y5 y6
      unfold laws_FnCacheRoom.l1
      repeat' first
      | (with_reducible exact ih0 _ _ _ _)
      | (with_reducible exact ih1 _ _ _ _)
      | (with_reducible exact ih2 _ _ _ _)
      | (with_reducible exact ih3 _ _ _ _ _ _ _)
      | (with_reducible exact laws_puts.mono _ _)
      | (with_reducible exact LeO.refl _)
      | (with_reducible exact LeO.none _)
      | (with_reducible refine LeO.ite ?_ ?_)
      | (with_reducible refine LeO.bind ?_ (fun _ => ?_))
      | exact ih0 _ _ _ _
      | exact ih1 _ _ _ _
      | exact ih2 _ _ _ _
      | exact ih3 _ _ _ _ _ _ _
      | exact laws_puts.mono _ _
      | exact LeO.none _
      | refine LeO.ite ?_ ?_
      | refine LeO.bind ?_ (fun _ => ?_)
theorem laws_FnCacheRoom.mono : ∀ a0 a1 a2 k, LeO (laws_FnCacheRoom.f k a0 a1 a2) (laws_FnCacheRoom.f (k + 1) a0 a1 a2) := by
  intro a0 a1 a2 k
  obtain ⟨ih0, ih1, ih2, ih3⟩ := laws_FnCacheRoom.mono_l k
  unfold laws_FnCacheRoom.f
  repeat' first
      | (with_reducible exact ih0 _ _ _ _)
      | (with_reducible exact ih1 _ _ _ _)
      | (with_reducible exact ih2 _ _ _ _)
      | (with_reducible exact ih3 _ _ _ _ _ _ _)
      | (with_reducible exact laws_puts.mono _ _)
      | (with_reducible exact LeO.refl _)
      | (with_reducible exact LeO.none _)
      | (with_reducible refine LeO.ite ?_ ?_)
      | (with_reducible refine LeO.bind ?_ (fun _ => ?_))
      | exact ih0 _ _ _ _
      | exact ih1 _ _ _ _
      | exact ih2 _ _ _ _
      | exact ih3 _ _ _ _ _ _ _
      | exact laws_puts.mono _ _
      | exact LeO.none _
      | refine LeO.ite ?_ ?_
      | refine LeO.bind ?_ (fun _ => ?_)
set_option maxHeartbeats 8000000 in
set_option maxRecDepth 100000 in
theorem laws_FnCacheRoom.calls (k : Nat) (a0 : Int) (a1 : Int) (A2 : Option Addr) (c2 : Nat) (l2 : List (S30)) (r : Bool) (w : World) (hr2 : Kd.C k30 w A2 l2.length l2) (hc2 : l2.length ≤ c2) (h : laws_FnCacheRoom.f k a0 a1 l2 = some r) :
    Calls Try.prog 4 #[.int .i64 a0, .int .i64 a1, .slice A2 l2.length c2] w fun e w' => e = .returned (.bool r) ∧ Below w.heap.size w w' := by
  have HR2 := Aside0.mk hr2
  have HC2 := Aside0.mk hc2
  clear hr2 hc2
  have HB := Aside0.mk (Below.refl w.heap.size w)
  have H : (if (l2.length : Int) > 2147483647 then (some true) else (if a0 < 1 then (laws_FnCacheRoom.j0 k a0 a1 l2 true) else (if a1 < a0 then (laws_FnCacheRoom.j0 k a0 a1 l2 true) else (if a1 > 30 then (laws_FnCacheRoom.j0 k a0 a1 l2 true) else ((laws_puts.f k l2).bind fun t117 => (laws_FnCacheRoom.j0 k a0 a1 l2 (!t117))))))) = some r := h
  clear h
  by_cases c4 : (l2.length : Int) > 2147483647
  · rw [if_pos c4] at H
    have c4b0 : decide (2147483647 < (l2.length : Int)) = true := decide_eq_true c4
    have c4b1 : decide (2147483647 < l2.length) = true := decide_eq_true (by omega)
    clear c4
    obtain rfl := Option.some.inj H
    go_enter Try.func4, Try.ntmps4
    go_wp2
    repeat (go_quiet (fail); try go_wp2)
    go_ret
    exact ⟨by first | rfl | (simp [errW_none, errW_some] <;> rfl) | (simp [*, errW_none, errW_some] <;> rfl), by repeat (first | (with_reducible first | exact HB.out | apply below_alloc | apply pw_below_drewN | apply below_drew1) | exact HB.out)⟩
  · rw [if_neg c4] at H
    have c4b0 : decide (2147483647 < (l2.length : Int)) = false := decide_eq_false c4
    have c4b1 : decide (2147483647 < l2.length) = false := decide_eq_false (by omega)
    clear c4
    have HC5 := Aside0.mk H
    clear H
    go_enter Try.func4, Try.ntmps4
    go_upto_region 3 with (fail)
    repeat (go_quiet (fail); go_upto_region 3 with (fail))
    go_cut [31] (fun v31 wc => ∃ (kq : Nat) (x31_4 : Bool), v31 = .bool x31_4 ∧ Aside0 (laws_FnCacheRoom.j0 kq a0 a1 l2 x31_4 = some r) ∧ Aside0 (kq ≤ k) ∧ Aside0 (Below w.heap.size w wc))
    case first =>
      have H := HC5.out
      clear HC5
      by_cases c6 : a0 < 1
      · rw [if_pos c6] at H
        have c6b0 : decide (a0 < 1) = true := decide_eq_true c6
        clear c6
        (first | rw [c6b0] | (simp only [i64_w, i32_w]; rw [c6b0]) | skip)
        have H' := Aside0.mk H
        clear H
        go_wp2
        repeat (go_quiet (fail); try go_wp2)
        go_meet
        case rel => exact ⟨_, (true), (by first | rfl | (simp; done) | (simp [*]; done)), H', ⟨by first | omega | exact Nat.le_refl _⟩, ⟨by repeat (first | (with_reducible first | exact HB.out | apply below_alloc | apply pw_below_drewN | apply below_drew1) | exact HB.out)⟩⟩
      · rw [if_neg c6] at H
        have c6b0 : decide (a0 < 1) = false := decide_eq_false c6
        clear c6
        (first | rw [c6b0] | (simp only [i64_w, i32_w]; rw [c6b0]) | skip)
        by_cases c7 : a1 < a0
        · rw [if_pos c7] at H
          have c7b0 : decide (a1 < a0) = true := decide_eq_true c7
          clear c7
          have H' := Aside0.mk H
          clear H
          go_wp2
          repeat (go_quiet (fail); try go_wp2)
          go_meet
          case rel => exact ⟨_, (true), (by first | rfl | (simp; done) | (simp [*]; done)), H', ⟨by first | omega | exact Nat.le_refl _⟩, ⟨by repeat (first | (with_reducible first | exact HB.out | apply below_alloc | apply pw_below_drewN | apply below_drew1) | exact HB.out)⟩⟩
        · rw [if_neg c7] at H
          have c7b0 : decide (a1 < a0) = false := decide_eq_false c7
          clear c7
          by_cases c8 : a1 > 30
          · rw [if_pos c8] at H
            have c8b0 : decide (30 < a1) = true := decide_eq_true c8
            clear c8
            have H' := Aside0.mk H
            clear H
            go_wp2
            repeat (go_quiet (fail); try go_wp2)
            go_meet
            case rel => exact ⟨_, (true), (by first | rfl | (simp; done) | (simp [*]; done)), H', ⟨by first | omega | exact Nat.le_refl _⟩, ⟨by repeat (first | (with_reducible first | exact HB.out | apply below_alloc | apply pw_below_drewN | apply below_drew1) | exact HB.out)⟩⟩
          · rw [if_neg c8] at H
            have c8b0 : decide (30 < a1) = false := decide_eq_false c8
            clear c8
            replace H := Option.bind_eq_some_iff.mp H
            obtain ⟨t117, A90, H⟩ := H
            replace H : (laws_FnCacheRoom.j0 k a0 a1 l2 (!t117)) = some r := H
            have A9 := Aside0.mk A90
            clear A90
            have H' := Aside0.mk H
            clear H
            go_wp2_with (first | (go_at_call 5; (with_reducible refine (laws_puts.calls k _ _ l2 t117 _ ?side1 ?side2 A9.out).mono ?_); (case side1 => repeat (first | exact (Kd.C_below HR2.out HB.out) | (with_reducible refine Kd.C_alloc ?_ _) | (with_reducible refine Kd.C_drewN ?_ _) | (with_reducible refine Kd.C_drew ?_))); (case side2 => exact HC2.out); rintro e w' ⟨rfl, ⟨nd, rfl⟩⟩; (try first | exact ⟨rfl, _, World.drewN_drewN _ _ _⟩ | exact ⟨rfl, _, Eq.trans (World.drewN_drewN _ _ _) (congrArg (World.drewN _) (Nat.add_assoc _ _ _))⟩)))
            repeat (go_quiet (first | (go_at_call 5; (with_reducible refine (laws_puts.calls k _ _ l2 t117 _ ?side1 ?side2 A9.out).mono ?_); (case side1 => repeat (first | exact (Kd.C_below HR2.out HB.out) | (with_reducible refine Kd.C_alloc ?_ _) | (with_reducible refine Kd.C_drewN ?_ _) | (with_reducible refine Kd.C_drew ?_))); (case side2 => exact HC2.out); rintro e w' ⟨rfl, ⟨nd, rfl⟩⟩; (try first | exact ⟨rfl, _, World.drewN_drewN _ _ _⟩ | exact ⟨rfl, _, Eq.trans (World.drewN_drewN _ _ _) (congrArg (World.drewN _) (Nat.add_assoc _ _ _))⟩))); try go_wp2_with (first | (go_at_call 5; (with_reducible refine (laws_puts.calls k _ _ l2 t117 _ ?side1 ?side2 A9.out).mono ?_); (case side1 => repeat (first | exact (Kd.C_below HR2.out HB.out) | (with_reducible refine Kd.C_alloc ?_ _) | (with_reducible refine Kd.C_drewN ?_ _) | (with_reducible refine Kd.C_drew ?_))); (case side2 => exact HC2.out); rintro e w' ⟨rfl, ⟨nd, rfl⟩⟩; (try first | exact ⟨rfl, _, World.drewN_drewN _ _ _⟩ | exact ⟨rfl, _, Eq.trans (World.drewN_drewN _ _ _) (congrArg (World.drewN _) (Nat.add_assoc _ _ _))⟩))))
            go_meet
            case rel => exact ⟨_, (!t117), (by first | rfl | (simp; done) | (simp [*]; done)), H', ⟨by first | omega | exact Nat.le_refl _⟩, ⟨by repeat (first | (with_reducible first | exact HB.out | apply below_alloc | apply pw_below_drewN | apply below_drew1) | exact HB.out)⟩⟩
    case rest =>
      clear HC5
      try clear c2
      try clear p2
      try clear c4
      try clear c4b0
      try clear c4b1
      try clear c6
      try clear c6b0
      try clear c7
      try clear c7b0
      try clear c8
      try clear c8b0
      obtain ⟨kq, x31_4, rfl, HA, HJ4, HB⟩ := hcut
      cases kq with
      | zero => exact absurd HA.out (by simp [laws_FnCacheRoom.j0])
      | succ kj4 =>
        have H := HA.out
        clear HA
        simp only [laws_FnCacheRoom.j0] at H
        by_cases c10 : x31_4 = true
        · subst c10
          have H1 : ((laws_awakeCache.f).bind fun t118 => (some t118)) = some r := by rw [if_pos rfl] at H; exact H
          clear H
          have H := H1
          clear H1
          replace H := Option.bind_eq_some_iff.mp H
          obtain ⟨t118, A110, H⟩ := H
          replace H : (some t118) = some r := H
          have A11 := Aside0.mk A110
          clear A110
          obtain rfl := Option.some.inj H
          go_wp2_with (first | (go_at_call 6; (with_reducible refine (laws_awakeCache.calls  t118 _ A11.out).mono ?_); rintro e w12 ⟨rfl, hb⟩; have n0_ := Aside0.mk (below_step (by repeat (first | (with_reducible first | exact HB.out | apply below_alloc | apply pw_below_drewN | apply below_drew1) | exact HB.out)) hb); clear HB; have HB := n0_; clear n0_; (try clear hb); (try clear hb2); (try clear hk); (try clear hi)))
          repeat (go_quiet (first | (go_at_call 6; (with_reducible refine (laws_awakeCache.calls  t118 _ A11.out).mono ?_); rintro e w12 ⟨rfl, hb⟩; have n0_ := Aside0.mk (below_step (by repeat (first | (with_reducible first | exact HB.out | apply below_alloc | apply pw_below_drewN | apply below_drew1) | exact HB.out)) hb); clear HB; have HB := n0_; clear n0_; (try clear hb); (try clear hb2); (try clear hk); (try clear hi))); try go_wp2_with (first | (go_at_call 6; (with_reducible refine (laws_awakeCache.calls  t118 _ A11.out).mono ?_); rintro e w12 ⟨rfl, hb⟩; have n0_ := Aside0.mk (below_step (by repeat (first | (with_reducible first | exact HB.out | apply below_alloc | apply pw_below_drewN | apply below_drew1) | exact HB.out)) hb); clear HB; have HB := n0_; clear n0_; (try clear hb); (try clear hb2); (try clear hk); (try clear hi))))
          go_ret
          exact ⟨by first | rfl | (simp [errW_none, errW_some] <;> rfl) | (simp [*, errW_none, errW_some] <;> rfl), by repeat (first | (with_reducible first | exact HB.out | apply below_alloc | apply pw_below_drewN | apply below_drew1) | exact HB.out)⟩
        · replace c10 := Bool.eq_false_iff.mpr c10
          subst c10
          have H1 : ((impl_Cache.f a0 l2).bind fun t119 => ((impl_Cache.f a1 l2).bind fun t122 => (if (t119.length : Int) = (l2.length : Int) then (laws_FnCacheRoom.j1 kj4 l2 t119 t122 ((t122.length : Int) != (l2.length : Int))) else (laws_FnCacheRoom.j1 kj4 l2 t119 t122 true)))) = some r := by rw [if_neg (show ¬ (false = true) by decide)] at H; exact H
          clear H
          have H := H1
          clear H1
          replace H := Option.bind_eq_some_iff.mp H
          obtain ⟨t119, A130, H⟩ := H
          replace H : ((impl_Cache.f a1 l2).bind fun t122 => (if (t119.length : Int) = (l2.length : Int) then (laws_FnCacheRoom.j1 kj4 l2 t119 t122 ((t122.length : Int) != (l2.length : Int))) else (laws_FnCacheRoom.j1 kj4 l2 t119 t122 true))) = some r := H
          have A13 := Aside0.mk A130
          clear A130
          replace H := Option.bind_eq_some_iff.mp H
          obtain ⟨t122, A140, H⟩ := H
          replace H : (if (t119.length : Int) = (l2.length : Int) then (laws_FnCacheRoom.j1 kj4 l2 t119 t122 ((t122.length : Int) != (l2.length : Int))) else (laws_FnCacheRoom.j1 kj4 l2 t119 t122 true)) = some r := H
          have A14 := Aside0.mk A140
          clear A140
          have HC15 := Aside0.mk H
          clear H
          go_upto_region 6 with (first | (go_at_call 8; (with_reducible refine (impl_Cache.calls a0 _ _ l2 t119 _ ?side1 ?side2 A13.out).mono ?_); (case side1 => repeat (first | exact (Kd.C_below HR2.out HB.out) | (with_reducible refine Kd.C_alloc ?_ _) | (with_reducible refine Kd.C_drewN ?_ _) | (with_reducible refine Kd.C_drew ?_))); (case side2 => exact HC2.out); rintro e w16 ⟨v120, rfl, ho0, hb⟩; have n0_ := Aside0.mk (Kd.R_lower ho0 (below_size (by repeat (first | (with_reducible first | exact HB.out | apply below_alloc | apply pw_below_drewN | apply below_drew1) | exact HB.out)))); have n1_ := Aside0.mk (below_step (by repeat (first | (with_reducible first | exact HB.out | apply below_alloc | apply pw_below_drewN | apply below_drew1) | exact HB.out)) hb); clear HB; have HO121 := n0_; have HB := n1_; clear n0_ n1_; (try clear hb); (try clear hb2); (try clear hk); (try clear hi); (try clear ho0)) | (go_at_call 8; (with_reducible refine (impl_Cache.calls a1 _ _ l2 t122 _ ?side1 ?side2 A14.out).mono ?_); (case side1 => repeat (first | exact (Kd.C_below HR2.out HB.out) | (with_reducible refine Kd.C_alloc ?_ _) | (with_reducible refine Kd.C_drewN ?_ _) | (with_reducible refine Kd.C_drew ?_))); (case side2 => exact HC2.out); rintro e w17 ⟨v123, rfl, ho0, hb⟩; have n0_ := Aside0.mk (Kd.R_elder' (by (with_reducible repeat (first | apply Kd.R_alloc | apply Kd.R_drewN | apply Kd.R_drew)); exact HO121.out) (Kd.R_base ho0) hb); have n1_ := Aside0.mk (Kd.R_lower (Kd.R_new' ho0 (Kd.R_lt (by (with_reducible repeat (first | apply Kd.R_alloc | apply Kd.R_drewN | apply Kd.R_drew)); exact HO121.out))) (below_size (by repeat (first | (with_reducible first | exact HB.out | apply below_alloc | apply pw_below_drewN | apply below_drew1) | exact HB.out)))); have n2_ := Aside0.mk (below_step (by repeat (first | (with_reducible first | exact HB.out | apply below_alloc | apply pw_below_drewN | apply below_drew1) | exact HB.out)) hb); clear HO121; clear HB; have HO121 := n0_; have HO124 := n1_; have HB := n2_; clear n0_ n1_ n2_; (try clear hb); (try clear hb2); (try clear hk); (try clear hi); (try clear ho0)))
          repeat (go_quiet (first | (go_at_call 8; (with_reducible refine (impl_Cache.calls a0 _ _ l2 t119 _ ?side1 ?side2 A13.out).mono ?_); (case side1 => repeat (first | exact (Kd.C_below HR2.out HB.out) | (with_reducible refine Kd.C_alloc ?_ _) | (with_reducible refine Kd.C_drewN ?_ _) | (with_reducible refine Kd.C_drew ?_))); (case side2 => exact HC2.out); rintro e w16 ⟨v120, rfl, ho0, hb⟩; have n0_ := Aside0.mk (Kd.R_lower ho0 (below_size (by repeat (first | (with_reducible first | exact HB.out | apply below_alloc | apply pw_below_drewN | apply below_drew1) | exact HB.out)))); have n1_ := Aside0.mk (below_step (by repeat (first | (with_reducible first | exact HB.out | apply below_alloc | apply pw_below_drewN | apply below_drew1) | exact HB.out)) hb); clear HB; have HO121 := n0_; have HB := n1_; clear n0_ n1_; (try clear hb); (try clear hb2); (try clear hk); (try clear hi); (try clear ho0)) | (go_at_call 8; (with_reducible refine (impl_Cache.calls a1 _ _ l2 t122 _ ?side1 ?side2 A14.out).mono ?_); (case side1 => repeat (first | exact (Kd.C_below HR2.out HB.out) | (with_reducible refine Kd.C_alloc ?_ _) | (with_reducible refine Kd.C_drewN ?_ _) | (with_reducible refine Kd.C_drew ?_))); (case side2 => exact HC2.out); rintro e w17 ⟨v123, rfl, ho0, hb⟩; have n0_ := Aside0.mk (Kd.R_elder' (by (with_reducible repeat (first | apply Kd.R_alloc | apply Kd.R_drewN | apply Kd.R_drew)); exact HO121.out) (Kd.R_base ho0) hb); have n1_ := Aside0.mk (Kd.R_lower (Kd.R_new' ho0 (Kd.R_lt (by (with_reducible repeat (first | apply Kd.R_alloc | apply Kd.R_drewN | apply Kd.R_drew)); exact HO121.out))) (below_size (by repeat (first | (with_reducible first | exact HB.out | apply below_alloc | apply pw_below_drewN | apply below_drew1) | exact HB.out)))); have n2_ := Aside0.mk (below_step (by repeat (first | (with_reducible first | exact HB.out | apply below_alloc | apply pw_below_drewN | apply below_drew1) | exact HB.out)) hb); clear HO121; clear HB; have HO121 := n0_; have HO124 := n1_; have HB := n2_; clear n0_ n1_ n2_; (try clear hb); (try clear hb2); (try clear hk); (try clear hi); (try clear ho0))); go_upto_region 6 with (first | (go_at_call 8; (with_reducible refine (impl_Cache.calls a0 _ _ l2 t119 _ ?side1 ?side2 A13.out).mono ?_); (case side1 => repeat (first | exact (Kd.C_below HR2.out HB.out) | (with_reducible refine Kd.C_alloc ?_ _) | (with_reducible refine Kd.C_drewN ?_ _) | (with_reducible refine Kd.C_drew ?_))); (case side2 => exact HC2.out); rintro e w16 ⟨v120, rfl, ho0, hb⟩; have n0_ := Aside0.mk (Kd.R_lower ho0 (below_size (by repeat (first | (with_reducible first | exact HB.out | apply below_alloc | apply pw_below_drewN | apply below_drew1) | exact HB.out)))); have n1_ := Aside0.mk (below_step (by repeat (first | (with_reducible first | exact HB.out | apply below_alloc | apply pw_below_drewN | apply below_drew1) | exact HB.out)) hb); clear HB; have HO121 := n0_; have HB := n1_; clear n0_ n1_; (try clear hb); (try clear hb2); (try clear hk); (try clear hi); (try clear ho0)) | (go_at_call 8; (with_reducible refine (impl_Cache.calls a1 _ _ l2 t122 _ ?side1 ?side2 A14.out).mono ?_); (case side1 => repeat (first | exact (Kd.C_below HR2.out HB.out) | (with_reducible refine Kd.C_alloc ?_ _) | (with_reducible refine Kd.C_drewN ?_ _) | (with_reducible refine Kd.C_drew ?_))); (case side2 => exact HC2.out); rintro e w17 ⟨v123, rfl, ho0, hb⟩; have n0_ := Aside0.mk (Kd.R_elder' (by (with_reducible repeat (first | apply Kd.R_alloc | apply Kd.R_drewN | apply Kd.R_drew)); exact HO121.out) (Kd.R_base ho0) hb); have n1_ := Aside0.mk (Kd.R_lower (Kd.R_new' ho0 (Kd.R_lt (by (with_reducible repeat (first | apply Kd.R_alloc | apply Kd.R_drewN | apply Kd.R_drew)); exact HO121.out))) (below_size (by repeat (first | (with_reducible first | exact HB.out | apply below_alloc | apply pw_below_drewN | apply below_drew1) | exact HB.out)))); have n2_ := Aside0.mk (below_step (by repeat (first | (with_reducible first | exact HB.out | apply below_alloc | apply pw_below_drewN | apply below_drew1) | exact HB.out)) hb); clear HO121; clear HB; have HO121 := n0_; have HO124 := n1_; have HB := n2_; clear n0_ n1_ n2_; (try clear hb); (try clear hb2); (try clear hk); (try clear hi); (try clear ho0))))
          (try simp only [Act.put, List.setIfInBounds_toArray, List.set_cons_zero, List.set_cons_succ])
          go_cut [50] (fun v50 wc => ∃ (kq : Nat) (x50_14 : Bool), v50 = .bool x50_14 ∧ Aside0 (laws_FnCacheRoom.j1 kq l2 t119 t122 x50_14 = some r) ∧ Aside0 (kq ≤ kj4) ∧ Aside0 (Kd.R k32 32 wc w.heap.size (fun k_ => some k_ ≠ (v123 : Value).ownBlock) v120 t119) ∧ Aside0 (Kd.R k32 32 wc w.heap.size (fun k_ => some k_ ≠ (v120 : Value).ownBlock) v123 t122) ∧ Aside0 (Below w.heap.size w wc))
          case first =>
            have H := HC15.out
            clear HC15
            by_cases c18 : (t119.length : Int) = (l2.length : Int)
            · rw [if_pos c18] at H
              have c18b0 : ((t119.length : Int) == (l2.length : Int)) = true := beq_iff_eq.mpr c18
              have c18b1 : ((t119.length : Int) != (l2.length : Int)) = false := bne_eq_false_iff_eq.mpr c18
              have c18b2 : (t119.length == l2.length) = true := by first | simpa using c18 | (simp at c18 ⊢; omega)
              clear c18
              (first | rw [c18b0] | (simp only [i64_w, i32_w]; rw [c18b0]) | skip)
              have H' := Aside0.mk H
              clear H
              obtain ⟨Ao19, co19, eo19⟩ := Kd.R_slice HO121.out
              subst eo19
              obtain ⟨Ao20, co20, eo20⟩ := Kd.R_slice HO124.out
              subst eo20
              go_wp2
              repeat (go_quiet (fail); try go_wp2)
              go_meet
              case rel => exact ⟨_, (((t122.length : Int) != (l2.length : Int))), (by first | rfl | (simp; done) | (simp [*]; done)), H', ⟨by have := HJ4.out; first | omega | exact Nat.le_refl _⟩, ⟨by (with_reducible repeat (first | apply Kd.R_alloc | apply Kd.R_drewN | apply Kd.R_drew)); exact Kd.R_mono HO121.out (fun _ hk => hk.2)⟩, ⟨by (with_reducible repeat (first | apply Kd.R_alloc | apply Kd.R_drewN | apply Kd.R_drew)); exact Kd.R_mono HO124.out (fun _ hk => hk.2)⟩, ⟨by repeat (first | (with_reducible first | exact HB.out | apply below_alloc | apply pw_below_drewN | apply below_drew1) | exact HB.out)⟩⟩
            · rw [if_neg c18] at H
              have c18b0 : ((t119.length : Int) == (l2.length : Int)) = false := beq_eq_false_iff_ne.mpr c18
              have c18b1 : ((t119.length : Int) != (l2.length : Int)) = true := bne_iff_ne.mpr c18
              have c18b2 : (t119.length == l2.length) = false := by first | simpa using c18 | (simp at c18 ⊢; omega)
              (first | rw [c18b0] | (simp only [i64_w, i32_w]; rw [c18b0]) | skip)
              have H' := Aside0.mk H
              clear H
              obtain ⟨Ao21, co21, eo21⟩ := Kd.R_slice HO121.out
              subst eo21
              go_wp2
              repeat (go_quiet (fail); try go_wp2)
              go_meet
              case rel => exact ⟨_, (true), (by first | rfl | (simp; done) | (simp [*]; done)), H', ⟨by have := HJ4.out; first | omega | exact Nat.le_refl _⟩, ⟨by (with_reducible repeat (first | apply Kd.R_alloc | apply Kd.R_drewN | apply Kd.R_drew)); exact Kd.R_mono HO121.out (fun _ hk => hk.2)⟩, ⟨by (with_reducible repeat (first | apply Kd.R_alloc | apply Kd.R_drewN | apply Kd.R_drew)); exact Kd.R_mono HO124.out (fun _ hk => hk.2)⟩, ⟨by repeat (first | (with_reducible first | exact HB.out | apply below_alloc | apply pw_below_drewN | apply below_drew1) | exact HB.out)⟩⟩
          case rest =>
            clear HC15
            try clear c1
            try clear c2
            try clear p2
            try clear c4
            try clear c4b0
            try clear c4b1
            try clear c6
            try clear c6b0
            try clear c7
            try clear c7b0
            try clear c8
            try clear c8b0
            try clear c10
            try clear c18
            try clear c18b0
            try clear c18b1
            try clear c18b2
            try clear p2
            obtain ⟨kq, x50_14, rfl, HA, HJ14, HO_7, HO_8, HB⟩ := hcut
            cases kq with
            | zero => exact absurd HA.out (by simp [laws_FnCacheRoom.j1])
            | succ kj14 =>
              have H := HA.out
              clear HA
              simp only [laws_FnCacheRoom.j1] at H
              by_cases c22 : x50_14 = true
              · subst c22
                have H1 : (some false) = some r := by rw [if_pos rfl] at H; exact H
                clear H
                have H := H1
                clear H1
                obtain rfl := Option.some.inj H
                go_wp2
                repeat (go_quiet (fail); try go_wp2)
                go_ret
                exact ⟨by first | rfl | (simp [errW_none, errW_some] <;> rfl) | (simp [*, errW_none, errW_some] <;> rfl), by repeat (first | (with_reducible first | exact HB.out | apply below_alloc | apply pw_below_drewN | apply below_drew1) | exact HB.out)⟩
              · replace c22 := Bool.eq_false_iff.mpr c22
                subst c22
                have H1 : (laws_FnCacheRoom.l0 kj14 l2 t119 t122 0) = some r := by rw [if_neg (show ¬ (false = true) by decide)] at H; exact H
                clear H
                have H := H1
                clear H1
                have H' := Aside0.mk H
                clear H
                go_wp2
                repeat (go_quiet (fail); try go_wp2)
                go_loopg [9] kj14 (fun kq v9 w' => ∃ (x9_3 : Int), v9 = .int .i64 x9_3 ∧ Aside0 (laws_FnCacheRoom.l0 kq l2 t119 t122 x9_3 = some r) ∧ Aside0 (kq ≤ kj14) ∧ Aside0 (Kd.R k32 32 w' w.heap.size (fun k_ => some k_ ≠ (v123 : Value).ownBlock) v120 t119) ∧ Aside0 (Kd.R k32 32 w' w.heap.size (fun k_ => some k_ ≠ (v120 : Value).ownBlock) v123 t122) ∧ Aside0 (Below w.heap.size w w'))
                case atStart => exact ⟨(0), (by first | rfl | (simp; done) | (simp [*]; done)), H', ⟨Nat.le_refl _⟩, ⟨by (with_reducible repeat (first | apply Kd.R_alloc | apply Kd.R_drewN | apply Kd.R_drew)); exact HO_7.out⟩, ⟨by (with_reducible repeat (first | apply Kd.R_alloc | apply Kd.R_drewN | apply Kd.R_drew)); exact HO_8.out⟩, ⟨by repeat (first | (with_reducible first | exact HB.out | apply below_alloc | apply pw_below_drewN | apply below_drew1) | exact HB.out)⟩⟩
                case round =>
                  clear H'
                  try clear c1
                  try clear c2
                  try clear p2
                  try clear c4
                  try clear c4b0
                  try clear c4b1
                  try clear c6
                  try clear c6b0
                  try clear c7
                  try clear c7b0
                  try clear c8
                  try clear c8b0
                  try clear c10
                  try clear c18
                  try clear c18b0
                  try clear c18b1
                  try clear c18b2
                  try clear c22
                  try clear p2
                  obtain ⟨x9_3, rfl, HA, HK3, HO_7, HO_8, HB⟩ := hrel
                  cases gk with
                  | zero => exact absurd HA.out (by simp [laws_FnCacheRoom.l0])
                  | succ k3 =>
                    have H := HA.out
                    clear HA
                    simp only [laws_FnCacheRoom.l0] at H
                    by_cases c23 : x9_3 < (l2.length : Int)
                    · rw [if_pos c23] at H
                      have c23b0 : decide (x9_3 < (l2.length : Int)) = true := decide_eq_true c23
                      clear c23
                      by_cases c24 : 0 ≤ x9_3
                      · rw [if_pos c24] at H
                        have c24b0 : decide (0 ≤ x9_3) = true := decide_eq_true c24
                        clear c24
                        by_cases c25 : ((rd_T30 l2 x9_3).f0) = 0
                        · rw [if_pos c25] at H
                          have c25b0 : (((rd_T30 l2 x9_3).f0) == 0) = true := beq_iff_eq.mpr c25
                          have c25b1 : (((rd_T30 l2 x9_3).f0) != 0) = false := bne_eq_false_iff_eq.mpr c25
                          clear c25
                          have H' := Aside0.mk H
                          clear H
                          have p126 : 0 ≤ (x9_3 : Int) := of_decide_eq_true (by first | (with_reducible assumption) | assumption)
                          have q126 : x9_3 < (l2.length : Int) := of_decide_eq_true (by first | (with_reducible assumption) | assumption)
                          obtain ⟨ad126, e126, hx126_0, hx126_1, hx126_2⟩ := at_T30 HR2.out x9_3 p126 q126
                          cases e126
                          replace hx126_0 := (HB.out.cell (World.block_lt_of_cell? w _ hx126_0)).trans hx126_0
                          replace hx126_1 := (HB.out.cell (World.block_lt_of_cell? w _ hx126_1)).trans hx126_1
                          replace hx126_2 := (HB.out.cell (World.block_lt_of_cell? w _ hx126_2)).trans hx126_2
                          replace p126 := eq_true p126
                          replace q126 := eq_true q126
                          go_wp2
                          repeat (go_quiet (fail); try go_wp2)
                          go_roundg k3
                          case measure => have := HJ4.out; have := HJ14.out; have := HK3.out; omega
                          case rel => exact ⟨(wrap64 (x9_3 + 1)), (by first | rfl | (simp; done) | (simp [*]; done)), H', ⟨by have := HJ4.out; have := HJ14.out; have := HK3.out; omega⟩, ⟨by (with_reducible repeat (first | apply Kd.R_alloc | apply Kd.R_drewN | apply Kd.R_drew)); exact HO_7.out⟩, ⟨by (with_reducible repeat (first | apply Kd.R_alloc | apply Kd.R_drewN | apply Kd.R_drew)); exact HO_8.out⟩, ⟨by repeat (first | (with_reducible first | exact HB.out | apply below_alloc | apply pw_below_drewN | apply below_drew1) | exact HB.out)⟩⟩
                        · rw [if_neg c25] at H
                          have c25b0 : (((rd_T30 l2 x9_3).f0) == 0) = false := beq_eq_false_iff_ne.mpr c25
                          have c25b1 : (((rd_T30 l2 x9_3).f0) != 0) = true := bne_iff_ne.mpr c25
                          have H' := Aside0.mk H
                          clear H
                          have p126 : 0 ≤ (x9_3 : Int) := of_decide_eq_true (by first | (with_reducible assumption) | assumption)
                          have q126 : x9_3 < (l2.length : Int) := of_decide_eq_true (by first | (with_reducible assumption) | assumption)
                          obtain ⟨ad126, e126, hx126_0, hx126_1, hx126_2⟩ := at_T30 HR2.out x9_3 p126 q126
                          cases e126
                          replace hx126_0 := (HB.out.cell (World.block_lt_of_cell? w _ hx126_0)).trans hx126_0
                          replace hx126_1 := (HB.out.cell (World.block_lt_of_cell? w _ hx126_1)).trans hx126_1
                          replace hx126_2 := (HB.out.cell (World.block_lt_of_cell? w _ hx126_2)).trans hx126_2
                          replace p126 := eq_true p126
                          replace q126 := eq_true q126
                          go_wp2
                          repeat (go_quiet (fail); try go_wp2)
                          go_loopg [10, 11, 12] k3 (fun kq v10 v11 v12 w' => ∃ (x10_4 : Int) (x11_4 : Bool) (x12_4 : Int), v10 = .int .i64 x10_4 ∧ v11 = .bool x11_4 ∧ v12 = .int .i64 x12_4 ∧ Aside0 (laws_FnCacheRoom.l1 kq l2 t119 t122 x9_3 x10_4 x11_4 x12_4 = some r) ∧ Aside0 (kq ≤ k3) ∧ Aside0 (Kd.R k32 32 w' w.heap.size (fun k_ => some k_ ≠ (v123 : Value).ownBlock) v120 t119) ∧ Aside0 (Kd.R k32 32 w' w.heap.size (fun k_ => some k_ ≠ (v120 : Value).ownBlock) v123 t122) ∧ Aside0 (Below w.heap.size w w'))
                          case atStart => exact ⟨(0), (false), (0), (by first | rfl | (simp; done) | (simp [*]; done)), (by first | rfl | (simp; done) | (simp [*]; done)), (by first | rfl | (simp; done) | (simp [*]; done)), H', ⟨Nat.le_refl _⟩, ⟨by (with_reducible repeat (first | apply Kd.R_alloc | apply Kd.R_drewN | apply Kd.R_drew)); exact HO_7.out⟩, ⟨by (with_reducible repeat (first | apply Kd.R_alloc | apply Kd.R_drewN | apply Kd.R_drew)); exact HO_8.out⟩, ⟨by repeat (first | (with_reducible first | exact HB.out | apply below_alloc | apply pw_below_drewN | apply below_drew1) | exact HB.out)⟩⟩
                          case round =>
                            clear H'
                            try clear c1
                            try clear p1
                            try clear q1
                            try clear hx1
                            try clear c2
                            try clear p2
                            try clear c4
                            try clear c4b0
                            try clear c4b1
                            try clear c6
                            try clear c6b0
                            try clear p6
                            try clear c7
                            try clear c7b0
                            try clear c8
                            try clear c8b0
                            try clear c10
                            try clear p12
                            try clear q12
                            try clear hx12
                            try clear c18
                            try clear c18b0
                            try clear c18b1
                            try clear c18b2
                            try clear c22
                            try clear c23
                            try clear c23b0
                            try clear c24
                            try clear c24b0
                            try clear c25
                            try clear c25b0
                            try clear c25b1
                            try clear hx126_0
                            try clear hx126_1
                            try clear hx126_2
                            try clear p126
                            try clear p2
                            try clear q126
                            obtain ⟨x10_4, x11_4, x12_4, rfl, rfl, rfl, HA, HK4, HO_7, HO_8, HB⟩ := hrel
                            cases gk with
                            | zero => exact absurd HA.out (by simp [laws_FnCacheRoom.l1])
                            | succ k4 =>
                              have H := HA.out
                              clear HA
                              simp only [laws_FnCacheRoom.l1] at H
                              by_cases c26 : x12_4 < x9_3
                              · rw [if_pos c26] at H
                                have c26b0 : decide (x12_4 < x9_3) = true := decide_eq_true c26
                                clear c26
                                by_cases c27 : 0 ≤ x12_4
                                · rw [if_pos c27] at H
                                  have c27b0 : decide (0 ≤ x12_4) = true := decide_eq_true c27
                                  clear c27
                                  by_cases c28 : x12_4 < (l2.length : Int)
                                  · rw [if_pos c28] at H
                                    have c28b0 : decide (x12_4 < (l2.length : Int)) = true := decide_eq_true c28
                                    clear c28
                                    by_cases c29 : ((rd_T30 l2 x12_4).f0) = 0
                                    · rw [if_pos c29] at H
                                      have c29b0 : (((rd_T30 l2 x12_4).f0) == 0) = true := beq_iff_eq.mpr c29
                                      have c29b1 : (((rd_T30 l2 x12_4).f0) != 0) = false := bne_eq_false_iff_eq.mpr c29
                                      clear c29
                                      by_cases c30 : 0 ≤ x9_3
                                      · rw [if_pos c30] at H
                                        have c30b0 : decide (0 ≤ x9_3) = true := decide_eq_true c30
                                        clear c30
                                        by_cases c31 : x9_3 < (l2.length : Int)
                                        · rw [if_pos c31] at H
                                          have c31b0 : decide (x9_3 < (l2.length : Int)) = true := decide_eq_true c31
                                          clear c31
                                          by_cases c32 : ((rd_T30 l2 x12_4).f1) = ((rd_T30 l2 x9_3).f1)
                                          · rw [if_pos c32] at H
                                            have c32b0 : (((rd_T30 l2 x12_4).f1) == ((rd_T30 l2 x9_3).f1)) = true := beq_iff_eq.mpr c32
                                            have c32b1 : (((rd_T30 l2 x12_4).f1) != ((rd_T30 l2 x9_3).f1)) = false := bne_eq_false_iff_eq.mpr c32
                                            clear c32
                                            have H' := Aside0.mk H
                                            clear H
                                            have p127 : 0 ≤ (x12_4 : Int) := of_decide_eq_true (by first | (with_reducible assumption) | assumption)
                                            have q127 : x12_4 < (l2.length : Int) := of_decide_eq_true (by first | (with_reducible assumption) | assumption)
                                            obtain ⟨ad127, e127, hx127_0, hx127_1, hx127_2⟩ := at_T30 HR2.out x12_4 p127 q127
                                            obtain rfl : ad126 = ad127 := (by injection e127)
                                            replace hx127_0 := (HB.out.cell (World.block_lt_of_cell? w _ hx127_0)).trans hx127_0
                                            replace hx127_1 := (HB.out.cell (World.block_lt_of_cell? w _ hx127_1)).trans hx127_1
                                            replace hx127_2 := (HB.out.cell (World.block_lt_of_cell? w _ hx127_2)).trans hx127_2
                                            replace p127 := eq_true p127
                                            replace q127 := eq_true q127
                                            have p128 : 0 ≤ (x12_4 : Int) := of_decide_eq_true (by first | (with_reducible assumption) | assumption)
                                            have q128 : x12_4 < (l2.length : Int) := of_decide_eq_true (by first | (with_reducible assumption) | assumption)
                                            obtain ⟨ad128, e128, hx128_0, hx128_1, hx128_2⟩ := at_T30 HR2.out x12_4 p128 q128
                                            obtain rfl : ad126 = ad128 := (by injection e128)
                                            replace hx128_0 := (HB.out.cell (World.block_lt_of_cell? w _ hx128_0)).trans hx128_0
                                            replace hx128_1 := (HB.out.cell (World.block_lt_of_cell? w _ hx128_1)).trans hx128_1
                                            replace hx128_2 := (HB.out.cell (World.block_lt_of_cell? w _ hx128_2)).trans hx128_2
                                            replace p128 := eq_true p128
                                            replace q128 := eq_true q128
                                            have p129 : 0 ≤ (x9_3 : Int) := of_decide_eq_true (by first | (with_reducible assumption) | assumption)
                                            have q129 : x9_3 < (l2.length : Int) := of_decide_eq_true (by first | (with_reducible assumption) | assumption)
                                            obtain ⟨ad129, e129, hx129_0, hx129_1, hx129_2⟩ := at_T30 HR2.out x9_3 p129 q129
                                            obtain rfl : ad126 = ad129 := (by injection e129)
                                            replace hx129_0 := (HB.out.cell (World.block_lt_of_cell? w _ hx129_0)).trans hx129_0
                                            replace hx129_1 := (HB.out.cell (World.block_lt_of_cell? w _ hx129_1)).trans hx129_1
                                            replace hx129_2 := (HB.out.cell (World.block_lt_of_cell? w _ hx129_2)).trans hx129_2
                                            replace p129 := eq_true p129
                                            replace q129 := eq_true q129
                                            have p130 : 0 ≤ (x12_4 : Int) := of_decide_eq_true (by first | (with_reducible assumption) | assumption)
                                            have q130 : x12_4 < (l2.length : Int) := of_decide_eq_true (by first | (with_reducible assumption) | assumption)
                                            obtain ⟨ad130, e130, hx130_0, hx130_1, hx130_2⟩ := at_T30 HR2.out x12_4 p130 q130
                                            obtain rfl : ad126 = ad130 := (by injection e130)
                                            replace hx130_0 := (HB.out.cell (World.block_lt_of_cell? w _ hx130_0)).trans hx130_0
                                            replace hx130_1 := (HB.out.cell (World.block_lt_of_cell? w _ hx130_1)).trans hx130_1
                                            replace hx130_2 := (HB.out.cell (World.block_lt_of_cell? w _ hx130_2)).trans hx130_2
                                            replace p130 := eq_true p130
                                            replace q130 := eq_true q130
                                            go_wp2
                                            repeat (go_quiet (fail); try go_wp2)
                                            go_roundg k4
                                            case measure => have := HJ4.out; have := HJ14.out; have := HK3.out; have := HK4.out; omega
                                            case rel => exact ⟨((rd_T30 l2 x12_4).f2), (true), (wrap64 (x12_4 + 1)), (by first | rfl | (simp; done) | (simp [*]; done)), (by first | rfl | (simp; done) | (simp [*]; done)), (by first | rfl | (simp; done) | (simp [*]; done)), H', ⟨by have := HJ4.out; have := HJ14.out; have := HK3.out; have := HK4.out; omega⟩, ⟨by (with_reducible repeat (first | apply Kd.R_alloc | apply Kd.R_drewN | apply Kd.R_drew)); exact HO_7.out⟩, ⟨by (with_reducible repeat (first | apply Kd.R_alloc | apply Kd.R_drewN | apply Kd.R_drew)); exact HO_8.out⟩, ⟨by repeat (first | (with_reducible first | exact HB.out | apply below_alloc | apply pw_below_drewN | apply below_drew1) | exact HB.out)⟩⟩
                                          · rw [if_neg c32] at H
                                            have c32b0 : (((rd_T30 l2 x12_4).f1) == ((rd_T30 l2 x9_3).f1)) = false := beq_eq_false_iff_ne.mpr c32
                                            have c32b1 : (((rd_T30 l2 x12_4).f1) != ((rd_T30 l2 x9_3).f1)) = true := bne_iff_ne.mpr c32
                                            have H' := Aside0.mk H
                                            clear H
                                            have p127 : 0 ≤ (x12_4 : Int) := of_decide_eq_true (by first | (with_reducible assumption) | assumption)
                                            have q127 : x12_4 < (l2.length : Int) := of_decide_eq_true (by first | (with_reducible assumption) | assumption)
                                            obtain ⟨ad127, e127, hx127_0, hx127_1, hx127_2⟩ := at_T30 HR2.out x12_4 p127 q127
                                            obtain rfl : ad126 = ad127 := (by injection e127)
                                            replace hx127_0 := (HB.out.cell (World.block_lt_of_cell? w _ hx127_0)).trans hx127_0
                                            replace hx127_1 := (HB.out.cell (World.block_lt_of_cell? w _ hx127_1)).trans hx127_1
                                            replace hx127_2 := (HB.out.cell (World.block_lt_of_cell? w _ hx127_2)).trans hx127_2
                                            replace p127 := eq_true p127
                                            replace q127 := eq_true q127
                                            have p128 : 0 ≤ (x12_4 : Int) := of_decide_eq_true (by first | (with_reducible assumption) | assumption)
                                            have q128 : x12_4 < (l2.length : Int) := of_decide_eq_true (by first | (with_reducible assumption) | assumption)
                                            obtain ⟨ad128, e128, hx128_0, hx128_1, hx128_2⟩ := at_T30 HR2.out x12_4 p128 q128
                                            obtain rfl : ad126 = ad128 := (by injection e128)
                                            replace hx128_0 := (HB.out.cell (World.block_lt_of_cell? w _ hx128_0)).trans hx128_0
                                            replace hx128_1 := (HB.out.cell (World.block_lt_of_cell? w _ hx128_1)).trans hx128_1
                                            replace hx128_2 := (HB.out.cell (World.block_lt_of_cell? w _ hx128_2)).trans hx128_2
                                            replace p128 := eq_true p128
                                            replace q128 := eq_true q128
                                            have p129 : 0 ≤ (x9_3 : Int) := of_decide_eq_true (by first | (with_reducible assumption) | assumption)
                                            have q129 : x9_3 < (l2.length : Int) := of_decide_eq_true (by first | (with_reducible assumption) | assumption)
                                            obtain ⟨ad129, e129, hx129_0, hx129_1, hx129_2⟩ := at_T30 HR2.out x9_3 p129 q129
                                            obtain rfl : ad126 = ad129 := (by injection e129)
                                            replace hx129_0 := (HB.out.cell (World.block_lt_of_cell? w _ hx129_0)).trans hx129_0
                                            replace hx129_1 := (HB.out.cell (World.block_lt_of_cell? w _ hx129_1)).trans hx129_1
                                            replace hx129_2 := (HB.out.cell (World.block_lt_of_cell? w _ hx129_2)).trans hx129_2
                                            replace p129 := eq_true p129
                                            replace q129 := eq_true q129
                                            go_wp2
                                            repeat (go_quiet (fail); try go_wp2)
                                            go_roundg k4
                                            case measure => have := HJ4.out; have := HJ14.out; have := HK3.out; have := HK4.out; omega
                                            case rel => exact ⟨(x10_4), (x11_4), (wrap64 (x12_4 + 1)), (by first | rfl | (simp; done) | (simp [*]; done)), (by first | rfl | (simp; done) | (simp [*]; done)), (by first | rfl | (simp; done) | (simp [*]; done)), H', ⟨by have := HJ4.out; have := HJ14.out; have := HK3.out; have := HK4.out; omega⟩, ⟨by (with_reducible repeat (first | apply Kd.R_alloc | apply Kd.R_drewN | apply Kd.R_drew)); exact HO_7.out⟩, ⟨by (with_reducible repeat (first | apply Kd.R_alloc | apply Kd.R_drewN | apply Kd.R_drew)); exact HO_8.out⟩, ⟨by repeat (first | (with_reducible first | exact HB.out | apply below_alloc | apply pw_below_drewN | apply below_drew1) | exact HB.out)⟩⟩
                                        · rw [if_neg c31] at H
                                          exact absurd H (by simp)
                                      · rw [if_neg c30] at H
                                        exact absurd H (by simp)
                                    · rw [if_neg c29] at H
                                      have c29b0 : (((rd_T30 l2 x12_4).f0) == 0) = false := beq_eq_false_iff_ne.mpr c29
                                      have c29b1 : (((rd_T30 l2 x12_4).f0) != 0) = true := bne_iff_ne.mpr c29
                                      have H' := Aside0.mk H
                                      clear H
                                      have p127 : 0 ≤ (x12_4 : Int) := of_decide_eq_true (by first | (with_reducible assumption) | assumption)
                                      have q127 : x12_4 < (l2.length : Int) := of_decide_eq_true (by first | (with_reducible assumption) | assumption)
                                      obtain ⟨ad127, e127, hx127_0, hx127_1, hx127_2⟩ := at_T30 HR2.out x12_4 p127 q127
                                      obtain rfl : ad126 = ad127 := (by injection e127)
                                      replace hx127_0 := (HB.out.cell (World.block_lt_of_cell? w _ hx127_0)).trans hx127_0
                                      replace hx127_1 := (HB.out.cell (World.block_lt_of_cell? w _ hx127_1)).trans hx127_1
                                      replace hx127_2 := (HB.out.cell (World.block_lt_of_cell? w _ hx127_2)).trans hx127_2
                                      replace p127 := eq_true p127
                                      replace q127 := eq_true q127
                                      go_wp2
                                      repeat (go_quiet (fail); try go_wp2)
                                      go_roundg k4
                                      case measure => have := HJ4.out; have := HJ14.out; have := HK3.out; have := HK4.out; omega
                                      case rel => exact ⟨(x10_4), (x11_4), (wrap64 (x12_4 + 1)), (by first | rfl | (simp; done) | (simp [*]; done)), (by first | rfl | (simp; done) | (simp [*]; done)), (by first | rfl | (simp; done) | (simp [*]; done)), H', ⟨by have := HJ4.out; have := HJ14.out; have := HK3.out; have := HK4.out; omega⟩, ⟨by (with_reducible repeat (first | apply Kd.R_alloc | apply Kd.R_drewN | apply Kd.R_drew)); exact HO_7.out⟩, ⟨by (with_reducible repeat (first | apply Kd.R_alloc | apply Kd.R_drewN | apply Kd.R_drew)); exact HO_8.out⟩, ⟨by repeat (first | (with_reducible first | exact HB.out | apply below_alloc | apply pw_below_drewN | apply below_drew1) | exact HB.out)⟩⟩
                                  · rw [if_neg c28] at H
                                    exact absurd H (by simp)
                                · rw [if_neg c27] at H
                                  exact absurd H (by simp)
                              · rw [if_neg c26] at H
                                have c26b0 : decide (x12_4 < x9_3) = false := decide_eq_false c26
                                clear c26
                                by_cases c33 : 0 ≤ x9_3
                                · rw [if_pos c33] at H
                                  have c33b0 : decide (0 ≤ x9_3) = true := decide_eq_true c33
                                  clear c33
                                  by_cases c34 : x9_3 < (t119.length : Int)
                                  · rw [if_pos c34] at H
                                    have c34b0 : decide (x9_3 < (t119.length : Int)) = true := decide_eq_true c34
                                    clear c34
                                    obtain ⟨bq35, hbq35⟩ : ∃ b_ : Bool, b_ = ((rd_T32 t119 x9_3).f0) := ⟨_, rfl⟩
                                    replace H : (if bq35 = true then (if x9_3 < (t122.length : Int) then (if ((rd_T32 t122 x9_3).f0 = true) then (if (rd_T32 t122 x9_3).f0 = true then (if x11_4 = true then (if ((rd_T32 t122 x9_3).f1) = x10_4 then (if ((rd_T32 t119 x9_3).f1) = x10_4 then (laws_FnCacheRoom.l0 k4 l2 t119 t122 (wrap64 (x9_3 + 1))) else (some false)) else (some false)) else (some false)) else (if ((rd_T32 t119 x9_3).f1) = x10_4 then (laws_FnCacheRoom.l0 k4 l2 t119 t122 (wrap64 (x9_3 + 1))) else (some false))) else (some false)) else (none)) else (if x9_3 < (t122.length : Int) then (if (rd_T32 t122 x9_3).f0 = true then (if x11_4 = true then (if ((rd_T32 t122 x9_3).f1) = x10_4 then (laws_FnCacheRoom.l0 k4 l2 t119 t122 (wrap64 (x9_3 + 1))) else (some false)) else (some false)) else (laws_FnCacheRoom.l0 k4 l2 t119 t122 (wrap64 (x9_3 + 1)))) else (none))) = some r := by rw [← hbq35] at H; exact H
                                    have Nbq35 := Aside0.mk hbq35
                                    clear hbq35
                                    by_cases c36 : bq35 = true
                                    · subst c36
                                      have H1 : (if x9_3 < (t122.length : Int) then (if ((rd_T32 t122 x9_3).f0 = true) then (if (rd_T32 t122 x9_3).f0 = true then (if x11_4 = true then (if ((rd_T32 t122 x9_3).f1) = x10_4 then (if ((rd_T32 t119 x9_3).f1) = x10_4 then (laws_FnCacheRoom.l0 k4 l2 t119 t122 (wrap64 (x9_3 + 1))) else (some false)) else (some false)) else (some false)) else (if ((rd_T32 t119 x9_3).f1) = x10_4 then (laws_FnCacheRoom.l0 k4 l2 t119 t122 (wrap64 (x9_3 + 1))) else (some false))) else (some false)) else (none)) = some r := by rw [if_pos rfl] at H; exact H
                                      clear H
                                      have H := H1
                                      clear H1
                                      by_cases c37 : x9_3 < (t122.length : Int)
                                      · rw [if_pos c37] at H
                                        have c37b0 : decide (x9_3 < (t122.length : Int)) = true := decide_eq_true c37
                                        clear c37
                                        obtain ⟨bq38, hbq38⟩ : ∃ b_ : Bool, b_ = ((rd_T32 t122 x9_3).f0) := ⟨_, rfl⟩
                                        replace H : (if (bq38 = true) then (if bq38 = true then (if x11_4 = true then (if ((rd_T32 t122 x9_3).f1) = x10_4 then (if ((rd_T32 t119 x9_3).f1) = x10_4 then (laws_FnCacheRoom.l0 k4 l2 t119 t122 (wrap64 (x9_3 + 1))) else (some false)) else (some false)) else (some false)) else (if ((rd_T32 t119 x9_3).f1) = x10_4 then (laws_FnCacheRoom.l0 k4 l2 t119 t122 (wrap64 (x9_3 + 1))) else (some false))) else (some false)) = some r := by rw [← hbq38] at H; exact H
                                        have Nbq38 := Aside0.mk hbq38
                                        clear hbq38
                                        by_cases c39 : (bq38 = true)
                                        · subst c39
                                          have H1 : (if true = true then (if x11_4 = true then (if ((rd_T32 t122 x9_3).f1) = x10_4 then (if ((rd_T32 t119 x9_3).f1) = x10_4 then (laws_FnCacheRoom.l0 k4 l2 t119 t122 (wrap64 (x9_3 + 1))) else (some false)) else (some false)) else (some false)) else (if ((rd_T32 t119 x9_3).f1) = x10_4 then (laws_FnCacheRoom.l0 k4 l2 t119 t122 (wrap64 (x9_3 + 1))) else (some false))) = some r := by rw [if_pos rfl] at H; exact H
                                          clear H
                                          have H := H1
                                          clear H1
                                          by_cases c40 : true = true
                                          · clear c40
                                            have H1 : (if x11_4 = true then (if ((rd_T32 t122 x9_3).f1) = x10_4 then (if ((rd_T32 t119 x9_3).f1) = x10_4 then (laws_FnCacheRoom.l0 k4 l2 t119 t122 (wrap64 (x9_3 + 1))) else (some false)) else (some false)) else (some false)) = some r := by rw [if_pos rfl] at H; exact H
                                            clear H
                                            have H := H1
                                            clear H1
                                            by_cases c41 : x11_4 = true
                                            · subst c41
                                              have H1 : (if ((rd_T32 t122 x9_3).f1) = x10_4 then (if ((rd_T32 t119 x9_3).f1) = x10_4 then (laws_FnCacheRoom.l0 k4 l2 t119 t122 (wrap64 (x9_3 + 1))) else (some false)) else (some false)) = some r := by rw [if_pos rfl] at H; exact H
                                              clear H
                                              have H := H1
                                              clear H1
                                              by_cases c42 : ((rd_T32 t122 x9_3).f1) = x10_4
                                              · rw [if_pos c42] at H
                                                have c42b0 : (((rd_T32 t122 x9_3).f1) == x10_4) = true := beq_iff_eq.mpr c42
                                                have c42b1 : (((rd_T32 t122 x9_3).f1) != x10_4) = false := bne_eq_false_iff_eq.mpr c42
                                                clear c42
                                                by_cases c43 : ((rd_T32 t119 x9_3).f1) = x10_4
                                                · rw [if_pos c43] at H
                                                  have c43b0 : (((rd_T32 t119 x9_3).f1) == x10_4) = true := beq_iff_eq.mpr c43
                                                  have c43b1 : (((rd_T32 t119 x9_3).f1) != x10_4) = false := bne_eq_false_iff_eq.mpr c43
                                                  clear c43
                                                  have H' := Aside0.mk H
                                                  clear H
                                                  obtain ⟨Ao44, co44, eo44⟩ := Kd.R_slice HO_7.out
                                                  subst eo44
                                                  have p131 : 0 ≤ (x9_3 : Int) := of_decide_eq_true (by first | (with_reducible assumption) | assumption)
                                                  have q131 : x9_3 < (t119.length : Int) := of_decide_eq_true (by first | (with_reducible assumption) | assumption)
                                                  obtain ⟨ad131, e131, hx131_0, hx131_1⟩ := at_T32 (Kd.R_reads' HO_7.out).2.2 x9_3 p131 q131
                                                  (try rw [← Nbq35.out] at hx131_0)
                                                  (try rw [← Nbq38.out] at hx131_0)
                                                  cases e131
                                                  replace p131 := eq_true p131
                                                  replace q131 := eq_true q131
                                                  obtain ⟨Ao45, co45, eo45⟩ := Kd.R_slice HO_8.out
                                                  subst eo45
                                                  have p132 : 0 ≤ (x9_3 : Int) := of_decide_eq_true (by first | (with_reducible assumption) | assumption)
                                                  have q132 : x9_3 < (t122.length : Int) := of_decide_eq_true (by first | (with_reducible assumption) | assumption)
                                                  obtain ⟨ad132, e132, hx132_0, hx132_1⟩ := at_T32 (Kd.R_reads' HO_8.out).2.2 x9_3 p132 q132
                                                  (try rw [← Nbq35.out] at hx132_0)
                                                  (try rw [← Nbq38.out] at hx132_0)
                                                  cases e132
                                                  replace p132 := eq_true p132
                                                  replace q132 := eq_true q132
                                                  have p133 : 0 ≤ (x9_3 : Int) := of_decide_eq_true (by first | (with_reducible assumption) | assumption)
                                                  have q133 : x9_3 < (t122.length : Int) := of_decide_eq_true (by first | (with_reducible assumption) | assumption)
                                                  obtain ⟨ad133, e133, hx133_0, hx133_1⟩ := at_T32 (Kd.R_reads' HO_8.out).2.2 x9_3 p133 q133
                                                  (try rw [← Nbq35.out] at hx133_0)
                                                  (try rw [← Nbq38.out] at hx133_0)
                                                  obtain rfl : ad132 = ad133 := (by injection e133)
                                                  replace p133 := eq_true p133
                                                  replace q133 := eq_true q133
                                                  have p134 : 0 ≤ (x9_3 : Int) := of_decide_eq_true (by first | (with_reducible assumption) | assumption)
                                                  have q134 : x9_3 < (t122.length : Int) := of_decide_eq_true (by first | (with_reducible assumption) | assumption)
                                                  obtain ⟨ad134, e134, hx134_0, hx134_1⟩ := at_T32 (Kd.R_reads' HO_8.out).2.2 x9_3 p134 q134
                                                  (try rw [← Nbq35.out] at hx134_0)
                                                  (try rw [← Nbq38.out] at hx134_0)
                                                  obtain rfl : ad132 = ad134 := (by injection e134)
                                                  replace p134 := eq_true p134
                                                  replace q134 := eq_true q134
                                                  have p135 : 0 ≤ (x9_3 : Int) := of_decide_eq_true (by first | (with_reducible assumption) | assumption)
                                                  have q135 : x9_3 < (t119.length : Int) := of_decide_eq_true (by first | (with_reducible assumption) | assumption)
                                                  obtain ⟨ad135, e135, hx135_0, hx135_1⟩ := at_T32 (Kd.R_reads' HO_7.out).2.2 x9_3 p135 q135
                                                  (try rw [← Nbq35.out] at hx135_0)
                                                  (try rw [← Nbq38.out] at hx135_0)
                                                  obtain rfl : ad131 = ad135 := (by injection e135)
                                                  replace p135 := eq_true p135
                                                  replace q135 := eq_true q135
                                                  have p136 : 0 ≤ (x9_3 : Int) := of_decide_eq_true (by first | (with_reducible assumption) | assumption)
                                                  have q136 : x9_3 < (t119.length : Int) := of_decide_eq_true (by first | (with_reducible assumption) | assumption)
                                                  obtain ⟨ad136, e136, hx136_0, hx136_1⟩ := at_T32 (Kd.R_reads' HO_7.out).2.2 x9_3 p136 q136
                                                  (try rw [← Nbq35.out] at hx136_0)
                                                  (try rw [← Nbq38.out] at hx136_0)
                                                  obtain rfl : ad131 = ad136 := (by injection e136)
                                                  replace p136 := eq_true p136
                                                  replace q136 := eq_true q136
                                                  go_wp2
                                                  repeat (go_quiet (fail); try go_wp2)
                                                  go_roundg k4
                                                  case measure => have := HJ4.out; have := HJ14.out; have := HK3.out; have := HK4.out; omega
                                                  case rel => exact ⟨(wrap64 (x9_3 + 1)), (by first | rfl | (simp; done) | (simp [*]; done)), H', ⟨by have := HJ4.out; have := HJ14.out; have := HK3.out; have := HK4.out; omega⟩, ⟨by (with_reducible repeat (first | apply Kd.R_alloc | apply Kd.R_drewN | apply Kd.R_drew)); exact HO_7.out⟩, ⟨by (with_reducible repeat (first | apply Kd.R_alloc | apply Kd.R_drewN | apply Kd.R_drew)); exact HO_8.out⟩, ⟨by repeat (first | (with_reducible first | exact HB.out | apply below_alloc | apply pw_below_drewN | apply below_drew1) | exact HB.out)⟩⟩
                                                · rw [if_neg c43] at H
                                                  have c43b0 : (((rd_T32 t119 x9_3).f1) == x10_4) = false := beq_eq_false_iff_ne.mpr c43
                                                  have c43b1 : (((rd_T32 t119 x9_3).f1) != x10_4) = true := bne_iff_ne.mpr c43
                                                  obtain rfl := Option.some.inj H
                                                  obtain ⟨Ao46, co46, eo46⟩ := Kd.R_slice HO_7.out
                                                  subst eo46
                                                  have p131 : 0 ≤ (x9_3 : Int) := of_decide_eq_true (by first | (with_reducible assumption) | assumption)
                                                  have q131 : x9_3 < (t119.length : Int) := of_decide_eq_true (by first | (with_reducible assumption) | assumption)
                                                  obtain ⟨ad131, e131, hx131_0, hx131_1⟩ := at_T32 (Kd.R_reads' HO_7.out).2.2 x9_3 p131 q131
                                                  (try rw [← Nbq35.out] at hx131_0)
                                                  (try rw [← Nbq38.out] at hx131_0)
                                                  cases e131
                                                  replace p131 := eq_true p131
                                                  replace q131 := eq_true q131
                                                  obtain ⟨Ao47, co47, eo47⟩ := Kd.R_slice HO_8.out
                                                  subst eo47
                                                  have p132 : 0 ≤ (x9_3 : Int) := of_decide_eq_true (by first | (with_reducible assumption) | assumption)
                                                  have q132 : x9_3 < (t122.length : Int) := of_decide_eq_true (by first | (with_reducible assumption) | assumption)
                                                  obtain ⟨ad132, e132, hx132_0, hx132_1⟩ := at_T32 (Kd.R_reads' HO_8.out).2.2 x9_3 p132 q132
                                                  (try rw [← Nbq35.out] at hx132_0)
                                                  (try rw [← Nbq38.out] at hx132_0)
                                                  cases e132
                                                  replace p132 := eq_true p132
                                                  replace q132 := eq_true q132
                                                  have p133 : 0 ≤ (x9_3 : Int) := of_decide_eq_true (by first | (with_reducible assumption) | assumption)
                                                  have q133 : x9_3 < (t122.length : Int) := of_decide_eq_true (by first | (with_reducible assumption) | assumption)
                                                  obtain ⟨ad133, e133, hx133_0, hx133_1⟩ := at_T32 (Kd.R_reads' HO_8.out).2.2 x9_3 p133 q133
                                                  (try rw [← Nbq35.out] at hx133_0)
                                                  (try rw [← Nbq38.out] at hx133_0)
                                                  obtain rfl : ad132 = ad133 := (by injection e133)
                                                  replace p133 := eq_true p133
                                                  replace q133 := eq_true q133
                                                  have p134 : 0 ≤ (x9_3 : Int) := of_decide_eq_true (by first | (with_reducible assumption) | assumption)
                                                  have q134 : x9_3 < (t122.length : Int) := of_decide_eq_true (by first | (with_reducible assumption) | assumption)
                                                  obtain ⟨ad134, e134, hx134_0, hx134_1⟩ := at_T32 (Kd.R_reads' HO_8.out).2.2 x9_3 p134 q134
                                                  (try rw [← Nbq35.out] at hx134_0)
                                                  (try rw [← Nbq38.out] at hx134_0)
                                                  obtain rfl : ad132 = ad134 := (by injection e134)
                                                  replace p134 := eq_true p134
                                                  replace q134 := eq_true q134
                                                  have p135 : 0 ≤ (x9_3 : Int) := of_decide_eq_true (by first | (with_reducible assumption) | assumption)
                                                  have q135 : x9_3 < (t119.length : Int) := of_decide_eq_true (by first | (with_reducible assumption) | assumption)
                                                  obtain ⟨ad135, e135, hx135_0, hx135_1⟩ := at_T32 (Kd.R_reads' HO_7.out).2.2 x9_3 p135 q135
                                                  (try rw [← Nbq35.out] at hx135_0)
                                                  (try rw [← Nbq38.out] at hx135_0)
                                                  obtain rfl : ad131 = ad135 := (by injection e135)
                                                  replace p135 := eq_true p135
                                                  replace q135 := eq_true q135
                                                  have p136 : 0 ≤ (x9_3 : Int) := of_decide_eq_true (by first | (with_reducible assumption) | assumption)
                                                  have q136 : x9_3 < (t119.length : Int) := of_decide_eq_true (by first | (with_reducible assumption) | assumption)
                                                  obtain ⟨ad136, e136, hx136_0, hx136_1⟩ := at_T32 (Kd.R_reads' HO_7.out).2.2 x9_3 p136 q136
                                                  (try rw [← Nbq35.out] at hx136_0)
                                                  (try rw [← Nbq38.out] at hx136_0)
                                                  obtain rfl : ad131 = ad136 := (by injection e136)
                                                  replace p136 := eq_true p136
                                                  replace q136 := eq_true q136
                                                  go_wp2
                                                  repeat (go_quiet (fail); try go_wp2)
                                                  go_ret
                                                  exact ⟨by first | rfl | (simp [errW_none, errW_some] <;> rfl) | (simp [*, errW_none, errW_some] <;> rfl), by repeat (first | (with_reducible first | exact HB.out | apply below_alloc | apply pw_below_drewN | apply below_drew1) | exact HB.out)⟩
                                              · rw [if_neg c42] at H
                                                have c42b0 : (((rd_T32 t122 x9_3).f1) == x10_4) = false := beq_eq_false_iff_ne.mpr c42
                                                have c42b1 : (((rd_T32 t122 x9_3).f1) != x10_4) = true := bne_iff_ne.mpr c42
                                                obtain rfl := Option.some.inj H
                                                obtain ⟨Ao48, co48, eo48⟩ := Kd.R_slice HO_7.out
                                                subst eo48
                                                have p131 : 0 ≤ (x9_3 : Int) := of_decide_eq_true (by first | (with_reducible assumption) | assumption)
                                                have q131 : x9_3 < (t119.length : Int) := of_decide_eq_true (by first | (with_reducible assumption) | assumption)
                                                obtain ⟨ad131, e131, hx131_0, hx131_1⟩ := at_T32 (Kd.R_reads' HO_7.out).2.2 x9_3 p131 q131
                                                (try rw [← Nbq35.out] at hx131_0)
                                                (try rw [← Nbq38.out] at hx131_0)
                                                cases e131
                                                replace p131 := eq_true p131
                                                replace q131 := eq_true q131
                                                obtain ⟨Ao49, co49, eo49⟩ := Kd.R_slice HO_8.out
                                                subst eo49
                                                have p132 : 0 ≤ (x9_3 : Int) := of_decide_eq_true (by first | (with_reducible assumption) | assumption)
                                                have q132 : x9_3 < (t122.length : Int) := of_decide_eq_true (by first | (with_reducible assumption) | assumption)
                                                obtain ⟨ad132, e132, hx132_0, hx132_1⟩ := at_T32 (Kd.R_reads' HO_8.out).2.2 x9_3 p132 q132
                                                (try rw [← Nbq35.out] at hx132_0)
                                                (try rw [← Nbq38.out] at hx132_0)
                                                cases e132
                                                replace p132 := eq_true p132
                                                replace q132 := eq_true q132
                                                have p133 : 0 ≤ (x9_3 : Int) := of_decide_eq_true (by first | (with_reducible assumption) | assumption)
                                                have q133 : x9_3 < (t122.length : Int) := of_decide_eq_true (by first | (with_reducible assumption) | assumption)
                                                obtain ⟨ad133, e133, hx133_0, hx133_1⟩ := at_T32 (Kd.R_reads' HO_8.out).2.2 x9_3 p133 q133
                                                (try rw [← Nbq35.out] at hx133_0)
                                                (try rw [← Nbq38.out] at hx133_0)
                                                obtain rfl : ad132 = ad133 := (by injection e133)
                                                replace p133 := eq_true p133
                                                replace q133 := eq_true q133
                                                have p134 : 0 ≤ (x9_3 : Int) := of_decide_eq_true (by first | (with_reducible assumption) | assumption)
                                                have q134 : x9_3 < (t122.length : Int) := of_decide_eq_true (by first | (with_reducible assumption) | assumption)
                                                obtain ⟨ad134, e134, hx134_0, hx134_1⟩ := at_T32 (Kd.R_reads' HO_8.out).2.2 x9_3 p134 q134
                                                (try rw [← Nbq35.out] at hx134_0)
                                                (try rw [← Nbq38.out] at hx134_0)
                                                obtain rfl : ad132 = ad134 := (by injection e134)
                                                replace p134 := eq_true p134
                                                replace q134 := eq_true q134
                                                go_wp2
                                                repeat (go_quiet (fail); try go_wp2)
                                                go_ret
                                                exact ⟨by first | rfl | (simp [errW_none, errW_some] <;> rfl) | (simp [*, errW_none, errW_some] <;> rfl), by repeat (first | (with_reducible first | exact HB.out | apply below_alloc | apply pw_below_drewN | apply below_drew1) | exact HB.out)⟩
                                            · replace c41 := Bool.eq_false_iff.mpr c41
                                              subst c41
                                              have H1 : (some false) = some r := by rw [if_neg (show ¬ (false = true) by decide)] at H; exact H
                                              clear H
                                              have H := H1
                                              clear H1
                                              obtain rfl := Option.some.inj H
                                              obtain ⟨Ao50, co50, eo50⟩ := Kd.R_slice HO_7.out
                                              subst eo50
                                              have p131 : 0 ≤ (x9_3 : Int) := of_decide_eq_true (by first | (with_reducible assumption) | assumption)
                                              have q131 : x9_3 < (t119.length : Int) := of_decide_eq_true (by first | (with_reducible assumption) | assumption)
                                              obtain ⟨ad131, e131, hx131_0, hx131_1⟩ := at_T32 (Kd.R_reads' HO_7.out).2.2 x9_3 p131 q131
                                              (try rw [← Nbq35.out] at hx131_0)
                                              (try rw [← Nbq38.out] at hx131_0)
                                              cases e131
                                              replace p131 := eq_true p131
                                              replace q131 := eq_true q131
                                              obtain ⟨Ao51, co51, eo51⟩ := Kd.R_slice HO_8.out
                                              subst eo51
                                              have p132 : 0 ≤ (x9_3 : Int) := of_decide_eq_true (by first | (with_reducible assumption) | assumption)
                                              have q132 : x9_3 < (t122.length : Int) := of_decide_eq_true (by first | (with_reducible assumption) | assumption)
                                              obtain ⟨ad132, e132, hx132_0, hx132_1⟩ := at_T32 (Kd.R_reads' HO_8.out).2.2 x9_3 p132 q132
                                              (try rw [← Nbq35.out] at hx132_0)
                                              (try rw [← Nbq38.out] at hx132_0)
                                              cases e132
                                              replace p132 := eq_true p132
                                              replace q132 := eq_true q132
                                              have p133 : 0 ≤ (x9_3 : Int) := of_decide_eq_true (by first | (with_reducible assumption) | assumption)
                                              have q133 : x9_3 < (t122.length : Int) := of_decide_eq_true (by first | (with_reducible assumption) | assumption)
                                              obtain ⟨ad133, e133, hx133_0, hx133_1⟩ := at_T32 (Kd.R_reads' HO_8.out).2.2 x9_3 p133 q133
                                              (try rw [← Nbq35.out] at hx133_0)
                                              (try rw [← Nbq38.out] at hx133_0)
                                              obtain rfl : ad132 = ad133 := (by injection e133)
                                              replace p133 := eq_true p133
                                              replace q133 := eq_true q133
                                              go_wp2
                                              repeat (go_quiet (fail); try go_wp2)
                                              go_ret
                                              exact ⟨by first | rfl | (simp [errW_none, errW_some] <;> rfl) | (simp [*, errW_none, errW_some] <;> rfl), by repeat (first | (with_reducible first | exact HB.out | apply below_alloc | apply pw_below_drewN | apply below_drew1) | exact HB.out)⟩
                                          · exact absurd rfl c40
                                        · replace c39 := Bool.eq_false_iff.mpr c39
                                          subst c39
                                          have H1 : (some false) = some r := by rw [if_neg (show ¬ (false = true) by decide)] at H; exact H
                                          clear H
                                          have H := H1
                                          clear H1
                                          obtain rfl := Option.some.inj H
                                          obtain ⟨Ao57, co57, eo57⟩ := Kd.R_slice HO_7.out
                                          subst eo57
                                          have p131 : 0 ≤ (x9_3 : Int) := of_decide_eq_true (by first | (with_reducible assumption) | assumption)
                                          have q131 : x9_3 < (t119.length : Int) := of_decide_eq_true (by first | (with_reducible assumption) | assumption)
                                          obtain ⟨ad131, e131, hx131_0, hx131_1⟩ := at_T32 (Kd.R_reads' HO_7.out).2.2 x9_3 p131 q131
                                          (try rw [← Nbq35.out] at hx131_0)
                                          (try rw [← Nbq38.out] at hx131_0)
                                          cases e131
                                          replace p131 := eq_true p131
                                          replace q131 := eq_true q131
                                          obtain ⟨Ao58, co58, eo58⟩ := Kd.R_slice HO_8.out
                                          subst eo58
                                          have p132 : 0 ≤ (x9_3 : Int) := of_decide_eq_true (by first | (with_reducible assumption) | assumption)
                                          have q132 : x9_3 < (t122.length : Int) := of_decide_eq_true (by first | (with_reducible assumption) | assumption)
                                          obtain ⟨ad132, e132, hx132_0, hx132_1⟩ := at_T32 (Kd.R_reads' HO_8.out).2.2 x9_3 p132 q132
                                          (try rw [← Nbq35.out] at hx132_0)
                                          (try rw [← Nbq38.out] at hx132_0)
                                          cases e132
                                          replace p132 := eq_true p132
                                          replace q132 := eq_true q132
                                          go_wp2
                                          repeat (go_quiet (fail); try go_wp2)
                                          go_ret
                                          exact ⟨by first | rfl | (simp [errW_none, errW_some] <;> rfl) | (simp [*, errW_none, errW_some] <;> rfl), by repeat (first | (with_reducible first | exact HB.out | apply below_alloc | apply pw_below_drewN | apply below_drew1) | exact HB.out)⟩
                                      · rw [if_neg c37] at H
                                        exact absurd H (by simp)
                                    · replace c36 := Bool.eq_false_iff.mpr c36
                                      subst c36
                                      have H1 : (if x9_3 < (t122.length : Int) then (if (rd_T32 t122 x9_3).f0 = true then (if x11_4 = true then (if ((rd_T32 t122 x9_3).f1) = x10_4 then (laws_FnCacheRoom.l0 k4 l2 t119 t122 (wrap64 (x9_3 + 1))) else (some false)) else (some false)) else (laws_FnCacheRoom.l0 k4 l2 t119 t122 (wrap64 (x9_3 + 1)))) else (none)) = some r := by rw [if_neg (show ¬ (false = true) by decide)] at H; exact H
                                      clear H
                                      have H := H1
                                      clear H1
                                      by_cases c59 : x9_3 < (t122.length : Int)
                                      · rw [if_pos c59] at H
                                        have c59b0 : decide (x9_3 < (t122.length : Int)) = true := decide_eq_true c59
                                        clear c59
                                        obtain ⟨bq60, hbq60⟩ : ∃ b_ : Bool, b_ = ((rd_T32 t122 x9_3).f0) := ⟨_, rfl⟩
                                        replace H : (if bq60 = true then (if x11_4 = true then (if ((rd_T32 t122 x9_3).f1) = x10_4 then (laws_FnCacheRoom.l0 k4 l2 t119 t122 (wrap64 (x9_3 + 1))) else (some false)) else (some false)) else (laws_FnCacheRoom.l0 k4 l2 t119 t122 (wrap64 (x9_3 + 1)))) = some r := by rw [← hbq60] at H; exact H
                                        have Nbq60 := Aside0.mk hbq60
                                        clear hbq60
                                        by_cases c61 : bq60 = true
                                        · subst c61
                                          have H1 : (if x11_4 = true then (if ((rd_T32 t122 x9_3).f1) = x10_4 then (laws_FnCacheRoom.l0 k4 l2 t119 t122 (wrap64 (x9_3 + 1))) else (some false)) else (some false)) = some r := by rw [if_pos rfl] at H; exact H
                                          clear H
                                          have H := H1
                                          clear H1
                                          by_cases c62 : x11_4 = true
                                          · subst c62
                                            have H1 : (if ((rd_T32 t122 x9_3).f1) = x10_4 then (laws_FnCacheRoom.l0 k4 l2 t119 t122 (wrap64 (x9_3 + 1))) else (some false)) = some r := by rw [if_pos rfl] at H; exact H
                                            clear H
                                            have H := H1
                                            clear H1
                                            by_cases c63 : ((rd_T32 t122 x9_3).f1) = x10_4
                                            · rw [if_pos c63] at H
                                              have c63b0 : (((rd_T32 t122 x9_3).f1) == x10_4) = true := beq_iff_eq.mpr c63
                                              have c63b1 : (((rd_T32 t122 x9_3).f1) != x10_4) = false := bne_eq_false_iff_eq.mpr c63
                                              clear c63
                                              have H' := Aside0.mk H
                                              clear H
                                              obtain ⟨Ao64, co64, eo64⟩ := Kd.R_slice HO_7.out
                                              subst eo64
                                              have p131 : 0 ≤ (x9_3 : Int) := of_decide_eq_true (by first | (with_reducible assumption) | assumption)
                                              have q131 : x9_3 < (t119.length : Int) := of_decide_eq_true (by first | (with_reducible assumption) | assumption)
                                              obtain ⟨ad131, e131, hx131_0, hx131_1⟩ := at_T32 (Kd.R_reads' HO_7.out).2.2 x9_3 p131 q131
                                              (try rw [← Nbq35.out] at hx131_0)
                                              (try rw [← Nbq60.out] at hx131_0)
                                              cases e131
                                              replace p131 := eq_true p131
                                              replace q131 := eq_true q131
                                              obtain ⟨Ao65, co65, eo65⟩ := Kd.R_slice HO_8.out
                                              subst eo65
                                              have p139 : 0 ≤ (x9_3 : Int) := of_decide_eq_true (by first | (with_reducible assumption) | assumption)
                                              have q139 : x9_3 < (t122.length : Int) := of_decide_eq_true (by first | (with_reducible assumption) | assumption)
                                              obtain ⟨ad139, e139, hx139_0, hx139_1⟩ := at_T32 (Kd.R_reads' HO_8.out).2.2 x9_3 p139 q139
                                              (try rw [← Nbq35.out] at hx139_0)
                                              (try rw [← Nbq60.out] at hx139_0)
                                              cases e139
                                              replace p139 := eq_true p139
                                              replace q139 := eq_true q139
                                              have p140 : 0 ≤ (x9_3 : Int) := of_decide_eq_true (by first | (with_reducible assumption) | assumption)
                                              have q140 : x9_3 < (t122.length : Int) := of_decide_eq_true (by first | (with_reducible assumption) | assumption)
                                              obtain ⟨ad140, e140, hx140_0, hx140_1⟩ := at_T32 (Kd.R_reads' HO_8.out).2.2 x9_3 p140 q140
                                              (try rw [← Nbq35.out] at hx140_0)
                                              (try rw [← Nbq60.out] at hx140_0)
                                              obtain rfl : ad139 = ad140 := (by injection e140)
                                              replace p140 := eq_true p140
                                              replace q140 := eq_true q140
                                              have p141 : 0 ≤ (x9_3 : Int) := of_decide_eq_true (by first | (with_reducible assumption) | assumption)
                                              have q141 : x9_3 < (t119.length : Int) := of_decide_eq_true (by first | (with_reducible assumption) | assumption)
                                              obtain ⟨ad141, e141, hx141_0, hx141_1⟩ := at_T32 (Kd.R_reads' HO_7.out).2.2 x9_3 p141 q141
                                              (try rw [← Nbq35.out] at hx141_0)
                                              (try rw [← Nbq60.out] at hx141_0)
                                              obtain rfl : ad131 = ad141 := (by injection e141)
                                              replace p141 := eq_true p141
                                              replace q141 := eq_true q141
                                              go_wp2
                                              repeat (go_quiet (fail); try go_wp2)
                                              go_roundg k4
                                              case measure => have := HJ4.out; have := HJ14.out; have := HK3.out; have := HK4.out; omega
                                              case rel => exact ⟨(wrap64 (x9_3 + 1)), (by first | rfl | (simp; done) | (simp [*]; done)), H', ⟨by have := HJ4.out; have := HJ14.out; have := HK3.out; have := HK4.out; omega⟩, ⟨by (with_reducible repeat (first | apply Kd.R_alloc | apply Kd.R_drewN | apply Kd.R_drew)); exact HO_7.out⟩, ⟨by (with_reducible repeat (first | apply Kd.R_alloc | apply Kd.R_drewN | apply Kd.R_drew)); exact HO_8.out⟩, ⟨by repeat (first | (with_reducible first | exact HB.out | apply below_alloc | apply pw_below_drewN | apply below_drew1) | exact HB.out)⟩⟩
                                            · rw [if_neg c63] at H
                                              have c63b0 : (((rd_T32 t122 x9_3).f1) == x10_4) = false := beq_eq_false_iff_ne.mpr c63
                                              have c63b1 : (((rd_T32 t122 x9_3).f1) != x10_4) = true := bne_iff_ne.mpr c63
                                              obtain rfl := Option.some.inj H
                                              obtain ⟨Ao66, co66, eo66⟩ := Kd.R_slice HO_7.out
                                              subst eo66
                                              have p131 : 0 ≤ (x9_3 : Int) := of_decide_eq_true (by first | (with_reducible assumption) | assumption)
                                              have q131 : x9_3 < (t119.length : Int) := of_decide_eq_true (by first | (with_reducible assumption) | assumption)
                                              obtain ⟨ad131, e131, hx131_0, hx131_1⟩ := at_T32 (Kd.R_reads' HO_7.out).2.2 x9_3 p131 q131
                                              (try rw [← Nbq35.out] at hx131_0)
                                              (try rw [← Nbq60.out] at hx131_0)
                                              cases e131
                                              replace p131 := eq_true p131
                                              replace q131 := eq_true q131
                                              obtain ⟨Ao67, co67, eo67⟩ := Kd.R_slice HO_8.out
                                              subst eo67
                                              have p139 : 0 ≤ (x9_3 : Int) := of_decide_eq_true (by first | (with_reducible assumption) | assumption)
                                              have q139 : x9_3 < (t122.length : Int) := of_decide_eq_true (by first | (with_reducible assumption) | assumption)
                                              obtain ⟨ad139, e139, hx139_0, hx139_1⟩ := at_T32 (Kd.R_reads' HO_8.out).2.2 x9_3 p139 q139
                                              (try rw [← Nbq35.out] at hx139_0)
                                              (try rw [← Nbq60.out] at hx139_0)
                                              cases e139
                                              replace p139 := eq_true p139
                                              replace q139 := eq_true q139
                                              have p140 : 0 ≤ (x9_3 : Int) := of_decide_eq_true (by first | (with_reducible assumption) | assumption)
                                              have q140 : x9_3 < (t122.length : Int) := of_decide_eq_true (by first | (with_reducible assumption) | assumption)
                                              obtain ⟨ad140, e140, hx140_0, hx140_1⟩ := at_T32 (Kd.R_reads' HO_8.out).2.2 x9_3 p140 q140
                                              (try rw [← Nbq35.out] at hx140_0)
                                              (try rw [← Nbq60.out] at hx140_0)
                                              obtain rfl : ad139 = ad140 := (by injection e140)
                                              replace p140 := eq_true p140
                                              replace q140 := eq_true q140
                                              go_wp2
                                              repeat (go_quiet (fail); try go_wp2)
                                              go_ret
                                              exact ⟨by first | rfl | (simp [errW_none, errW_some] <;> rfl) | (simp [*, errW_none, errW_some] <;> rfl), by repeat (first | (with_reducible first | exact HB.out | apply below_alloc | apply pw_below_drewN | apply below_drew1) | exact HB.out)⟩
                                          · replace c62 := Bool.eq_false_iff.mpr c62
                                            subst c62
                                            have H1 : (some false) = some r := by rw [if_neg (show ¬ (false = true) by decide)] at H; exact H
                                            clear H
                                            have H := H1
                                            clear H1
                                            obtain rfl := Option.some.inj H
                                            obtain ⟨Ao68, co68, eo68⟩ := Kd.R_slice HO_7.out
                                            subst eo68
                                            have p131 : 0 ≤ (x9_3 : Int) := of_decide_eq_true (by first | (with_reducible assumption) | assumption)
                                            have q131 : x9_3 < (t119.length : Int) := of_decide_eq_true (by first | (with_reducible assumption) | assumption)
                                            obtain ⟨ad131, e131, hx131_0, hx131_1⟩ := at_T32 (Kd.R_reads' HO_7.out).2.2 x9_3 p131 q131
                                            (try rw [← Nbq35.out] at hx131_0)
                                            (try rw [← Nbq60.out] at hx131_0)
                                            cases e131
                                            replace p131 := eq_true p131
                                            replace q131 := eq_true q131
                                            obtain ⟨Ao69, co69, eo69⟩ := Kd.R_slice HO_8.out
                                            subst eo69
                                            have p139 : 0 ≤ (x9_3 : Int) := of_decide_eq_true (by first | (with_reducible assumption) | assumption)
                                            have q139 : x9_3 < (t122.length : Int) := of_decide_eq_true (by first | (with_reducible assumption) | assumption)
                                            obtain ⟨ad139, e139, hx139_0, hx139_1⟩ := at_T32 (Kd.R_reads' HO_8.out).2.2 x9_3 p139 q139
                                            (try rw [← Nbq35.out] at hx139_0)
                                            (try rw [← Nbq60.out] at hx139_0)
                                            cases e139
                                            replace p139 := eq_true p139
                                            replace q139 := eq_true q139
                                            go_wp2
                                            repeat (go_quiet (fail); try go_wp2)
                                            go_ret
                                            exact ⟨by first | rfl | (simp [errW_none, errW_some] <;> rfl) | (simp [*, errW_none, errW_some] <;> rfl), by repeat (first | (with_reducible first | exact HB.out | apply below_alloc | apply pw_below_drewN | apply below_drew1) | exact HB.out)⟩
                                        · replace c61 := Bool.eq_false_iff.mpr c61
                                          subst c61
                                          have H1 : (laws_FnCacheRoom.l0 k4 l2 t119 t122 (wrap64 (x9_3 + 1))) = some r := by rw [if_neg (show ¬ (false = true) by decide)] at H; exact H
                                          clear H
                                          have H := H1
                                          clear H1
                                          have H' := Aside0.mk H
                                          clear H
                                          obtain ⟨Ao70, co70, eo70⟩ := Kd.R_slice HO_7.out
                                          subst eo70
                                          have p131 : 0 ≤ (x9_3 : Int) := of_decide_eq_true (by first | (with_reducible assumption) | assumption)
                                          have q131 : x9_3 < (t119.length : Int) := of_decide_eq_true (by first | (with_reducible assumption) | assumption)
                                          obtain ⟨ad131, e131, hx131_0, hx131_1⟩ := at_T32 (Kd.R_reads' HO_7.out).2.2 x9_3 p131 q131
                                          (try rw [← Nbq35.out] at hx131_0)
                                          (try rw [← Nbq60.out] at hx131_0)
                                          cases e131
                                          replace p131 := eq_true p131
                                          replace q131 := eq_true q131
                                          obtain ⟨Ao71, co71, eo71⟩ := Kd.R_slice HO_8.out
                                          subst eo71
                                          have p139 : 0 ≤ (x9_3 : Int) := of_decide_eq_true (by first | (with_reducible assumption) | assumption)
                                          have q139 : x9_3 < (t122.length : Int) := of_decide_eq_true (by first | (with_reducible assumption) | assumption)
                                          obtain ⟨ad139, e139, hx139_0, hx139_1⟩ := at_T32 (Kd.R_reads' HO_8.out).2.2 x9_3 p139 q139
                                          (try rw [← Nbq35.out] at hx139_0)
                                          (try rw [← Nbq60.out] at hx139_0)
                                          cases e139
                                          replace p139 := eq_true p139
                                          replace q139 := eq_true q139
                                          have p142 : 0 ≤ (x9_3 : Int) := of_decide_eq_true (by first | (with_reducible assumption) | assumption)
                                          have q142 : x9_3 < (t119.length : Int) := of_decide_eq_true (by first | (with_reducible assumption) | assumption)
                                          obtain ⟨ad142, e142, hx142_0, hx142_1⟩ := at_T32 (Kd.R_reads' HO_7.out).2.2 x9_3 p142 q142
                                          (try rw [← Nbq35.out] at hx142_0)
                                          (try rw [← Nbq60.out] at hx142_0)
                                          obtain rfl : ad131 = ad142 := (by injection e142)
                                          replace p142 := eq_true p142
                                          replace q142 := eq_true q142
                                          go_wp2
                                          repeat (go_quiet (fail); try go_wp2)
                                          go_roundg k4
                                          case measure => have := HJ4.out; have := HJ14.out; have := HK3.out; have := HK4.out; omega
                                          case rel => exact ⟨(wrap64 (x9_3 + 1)), (by first | rfl | (simp; done) | (simp [*]; done)), H', ⟨by have := HJ4.out; have := HJ14.out; have := HK3.out; have := HK4.out; omega⟩, ⟨by (with_reducible repeat (first | apply Kd.R_alloc | apply Kd.R_drewN | apply Kd.R_drew)); exact HO_7.out⟩, ⟨by (with_reducible repeat (first | apply Kd.R_alloc | apply Kd.R_drewN | apply Kd.R_drew)); exact HO_8.out⟩, ⟨by repeat (first | (with_reducible first | exact HB.out | apply below_alloc | apply pw_below_drewN | apply below_drew1) | exact HB.out)⟩⟩
                                      · rw [if_neg c59] at H
                                        exact absurd H (by simp)
                                  · rw [if_neg c34] at H
                                    exact absurd H (by simp)
                                · rw [if_neg c33] at H
                                  exact absurd H (by simp)
                      · rw [if_neg c24] at H
                        exact absurd H (by simp)
                    · rw [if_neg c23] at H
                      have c23b0 : decide (x9_3 < (l2.length : Int)) = false := decide_eq_false c23
                      clear c23
                      replace H := Option.bind_eq_some_iff.mp H
                      obtain ⟨t125, A720, H⟩ := H
                      replace H : (some t125) = some r := H
                      have A72 := Aside0.mk A720
                      clear A720
                      obtain rfl := Option.some.inj H
                      go_wp2_with (first | (go_at_call 6; (with_reducible refine (laws_awakeCache.calls  t125 _ A72.out).mono ?_); rintro e w73 ⟨rfl, hb⟩; have n0_ := Aside0.mk (Kd.R_below (by (with_reducible repeat (first | apply Kd.R_alloc | apply Kd.R_drewN | apply Kd.R_drew)); exact HO_7.out) hb); have n1_ := Aside0.mk (Kd.R_below (by (with_reducible repeat (first | apply Kd.R_alloc | apply Kd.R_drewN | apply Kd.R_drew)); exact HO_8.out) hb); have n2_ := Aside0.mk (below_step (by repeat (first | (with_reducible first | exact HB.out | apply below_alloc | apply pw_below_drewN | apply below_drew1) | exact HB.out)) hb); clear HO_7; clear HO_8; clear HB; have HO_7 := n0_; have HO_8 := n1_; have HB := n2_; clear n0_ n1_ n2_; (try clear hb); (try clear hb2); (try clear hk); (try clear hi)))
                      repeat (go_quiet (first | (go_at_call 6; (with_reducible refine (laws_awakeCache.calls  t125 _ A72.out).mono ?_); rintro e w73 ⟨rfl, hb⟩; have n0_ := Aside0.mk (Kd.R_below (by (with_reducible repeat (first | apply Kd.R_alloc | apply Kd.R_drewN | apply Kd.R_drew)); exact HO_7.out) hb); have n1_ := Aside0.mk (Kd.R_below (by (with_reducible repeat (first | apply Kd.R_alloc | apply Kd.R_drewN | apply Kd.R_drew)); exact HO_8.out) hb); have n2_ := Aside0.mk (below_step (by repeat (first | (with_reducible first | exact HB.out | apply below_alloc | apply pw_below_drewN | apply below_drew1) | exact HB.out)) hb); clear HO_7; clear HO_8; clear HB; have HO_7 := n0_; have HO_8 := n1_; have HB := n2_; clear n0_ n1_ n2_; (try clear hb); (try clear hb2); (try clear hk); (try clear hi))); try go_wp2_with (first | (go_at_call 6; (with_reducible refine (laws_awakeCache.calls  t125 _ A72.out).mono ?_); rintro e w73 ⟨rfl, hb⟩; have n0_ := Aside0.mk (Kd.R_below (by (with_reducible repeat (first | apply Kd.R_alloc | apply Kd.R_drewN | apply Kd.R_drew)); exact HO_7.out) hb); have n1_ := Aside0.mk (Kd.R_below (by (with_reducible repeat (first | apply Kd.R_alloc | apply Kd.R_drewN | apply Kd.R_drew)); exact HO_8.out) hb); have n2_ := Aside0.mk (below_step (by repeat (first | (with_reducible first | exact HB.out | apply below_alloc | apply pw_below_drewN | apply below_drew1) | exact HB.out)) hb); clear HO_7; clear HO_8; clear HB; have HO_7 := n0_; have HO_8 := n1_; have HB := n2_; clear n0_ n1_ n2_; (try clear hb); (try clear hb2); (try clear hk); (try clear hi))))
                      go_ret
                      exact ⟨by first | rfl | (simp [errW_none, errW_some] <;> rfl) | (simp [*, errW_none, errW_some] <;> rfl), by repeat (first | (with_reducible first | exact HB.out | apply below_alloc | apply pw_below_drewN | apply below_drew1) | exact HB.out)⟩

end Go.Proofs.Ytikjdoemkibadaa.PFnCacheRoom
