/- The machine side of laws.FnConfigValues: each function of this text answers what its Lean function answers (written for this claim by a program of this session over the kit's print; no condition beyond what each theorem says). -/
import Derived.Test.YtbomcdnijklgjaaGreatDoorOFnConfigValuesx0
import Derived.Test.YtbomcdnijklgjaaGreatDoorOFnConfigValuesx2
namespace Go.Proofs.YtbomcdnijklgjaaGreatDoor.PFnConfigValues
open Go.RowKit Go.Proofs.YtbomcdnijklgjaaGreatDoorW.PrintWords Go.Proofs.YtbomcdnijklgjaaGreatDoorW.PrintLast Go.Proofs.YtbomcdnijklgjaaGreatDoorW.PrintMore
attribute [local go_sem] max2_int min2_int max_two min_two max_three min_three max_four min_four   -- for this text's walks alone
set_option linter.unusedVariables false
set_option linter.unusedSimpArgs false

/-! ### spec_Written: function 24 -/
mutual
def spec_Written.l0 : Nat → List (S50) → Int → Option (Bool)
  | 0, _, _ => none
  | k + 1, x0, x3 => if x3 < (x0.length : Int) then (if 0 ≤ x3 then (if ((rd_T50 x0 x3).f0).toList = ([] : List UInt8) then (if x3 > 0 then (spec_Written.j1 k x0 x3 true) else (spec_Written.j1 k x0 x3 false)) else ((spec_small.f k ((rd_T50 x0 x3).f0)).bind fun t117 => (if t117 = true then (spec_Written.j1 k x0 x3 (((rd_T50 x0 x3).f0).toList == ([100, 101, 102, 97, 117, 108, 116] : List UInt8))) else (spec_Written.j1 k x0 x3 true)))) else (none)) else (some true)
def spec_Written.j1 : Nat → List (S50) → Int → Bool → Option (Bool)
  | 0, _, _, _ => none
  | k + 1, x0, x3, x50 => if x50 = true then (some false) else (spec_Written.l1 k x0 x3 0)
def spec_Written.l1 : Nat → List (S50) → Int → Int → Option (Bool)
  | 0, _, _, _ => none
  | k + 1, x0, x3, x4 => if x4 < x3 then (if 0 ≤ x4 then (if x4 < (x0.length : Int) then (if 0 ≤ x3 then (if x3 < (x0.length : Int) then (if ((rd_T50 x0 x4).f0).toList = ((rd_T50 x0 x3).f0).toList then (some false) else (spec_Written.l1 k x0 x3 (wrap64 (x4 + 1)))) else (none)) else (none)) else (none)) else (none)) else (spec_Written.l2 k x0 x3 0)
def spec_Written.l2 : Nat → List (S50) → Int → Int → Option (Bool)
  | 0, _, _, _ => none
  | k + 1, x0, x3, x5 => if 0 ≤ x3 then (if x3 < (x0.length : Int) then (if x5 < (((rd_T50 x0 x3).f1).length : Int) then (if 0 ≤ x5 then (if (rdOf ByteArray.empty ((rd_T50 x0 x3).f1) x5).toList = ([] : List UInt8) then (spec_Written.l2 k x0 x3 (wrap64 (x5 + 1))) else ((spec_Valued.f k (rdOf ByteArray.empty ((rd_T50 x0 x3).f1) x5)).bind fun t126 => (if t126 = true then (spec_Written.l2 k x0 x3 (wrap64 (x5 + 1))) else (some false)))) else (none)) else (spec_Written.l3 k x0 x3 0)) else (none)) else (none)
def spec_Written.l3 : Nat → List (S50) → Int → Int → Option (Bool)
  | 0, _, _, _ => none
  | k + 1, x0, x3, x6 => if 0 ≤ x3 then (if x3 < (x0.length : Int) then (if x6 < (((rd_T50 x0 x3).f2).length : Int) then (if 0 ≤ x6 then ((spec_small.f k ((rd_T53 ((rd_T50 x0 x3).f2) x6).f0)).bind fun t131 => (if t131 = true then (spec_Written.j5 k x0 x3 x6 ((((rd_T53 ((rd_T50 x0 x3).f2) x6).f1).length : Int) == 0) ((rd_T53 ((rd_T50 x0 x3).f2) x6).f0) ((rd_T53 ((rd_T50 x0 x3).f2) x6).f1)) else (spec_Written.j5 k x0 x3 x6 true ((rd_T53 ((rd_T50 x0 x3).f2) x6).f0) ((rd_T53 ((rd_T50 x0 x3).f2) x6).f1)))) else (none)) else (spec_Written.l0 k x0 (wrap64 (x3 + 1)))) else (none)) else (none)
def spec_Written.j5 : Nat → List (S50) → Int → Int → Bool → ByteArray → List ByteArray → Option (Bool)
  | 0, _, _, _, _, _, _ => none
  | k + 1, x0, x3, x6, x125, x131000, x131001 => if x125 = true then (some false) else (spec_Written.l4 k x0 x3 x6 0 x131000 x131001)
def spec_Written.l4 : Nat → List (S50) → Int → Int → Int → ByteArray → List ByteArray → Option (Bool)
  | 0, _, _, _, _, _, _ => none
  | k + 1, x0, x3, x6, x8, x131000, x131001 => if x8 < (x131001.length : Int) then (if 0 ≤ x8 then ((spec_Valued.f k (rdOf ByteArray.empty x131001 x8)).bind fun t133 => (if t133 = true then (if x8 > 0 then (if 0 < ((rdOf ByteArray.empty x131001 x8).size : Int) then (if (bt (rdOf ByteArray.empty x131001 x8) 0) = 91 then (some false) else (if (bt (rdOf ByteArray.empty x131001 x8) 0) = 61 then (some false) else (spec_Written.l4 k x0 x3 x6 (wrap64 (x8 + 1)) x131000 x131001))) else (none)) else (spec_Written.l4 k x0 x3 x6 (wrap64 (x8 + 1)) x131000 x131001)) else (some false))) else (none)) else (spec_Written.l5 k x0 x3 x6 0 x131000 x131001)
def spec_Written.l5 : Nat → List (S50) → Int → Int → Int → ByteArray → List ByteArray → Option (Bool)
  | 0, _, _, _, _, _, _ => none
  | k + 1, x0, x3, x6, x9, x131000, x131001 => if x9 < x6 then (if 0 ≤ x3 then (if x3 < (x0.length : Int) then (if 0 ≤ x9 then (if x9 < (((rd_T50 x0 x3).f2).length : Int) then (if ((rd_T53 ((rd_T50 x0 x3).f2) x9).f0).toList = x131000.toList then (some false) else (spec_Written.l5 k x0 x3 x6 (wrap64 (x9 + 1)) x131000 x131001)) else (none)) else (none)) else (none)) else (none)) else (spec_Written.l3 k x0 x3 (wrap64 (x6 + 1)))
end
def spec_Written.f (k : Nat) (l0 : List (S50)) : Option (Bool) := spec_Written.l0 k l0 0
theorem spec_Written.mono_l : ∀ k, (∀ y0 y1, LeO (spec_Written.l0 k y0 y1) (spec_Written.l0 (k + 1) y0 y1)) ∧ (∀ y0 y1 y2, LeO (spec_Written.j1 k y0 y1 y2) (spec_Written.j1 (k + 1) y0 y1 y2)) ∧ (∀ y0 y1 y2, LeO (spec_Written.l1 k y0 y1 y2) (spec_Written.l1 (k + 1) y0 y1 y2)) ∧ (∀ y0 y1 y2, LeO (spec_Written.l2 k y0 y1 y2) (spec_Written.l2 (k + 1) y0 y1 y2)) ∧ (∀ y0 y1 y2, LeO (spec_Written.l3 k y0 y1 y2) (spec_Written.l3 (k + 1) y0 y1 y2)) ∧ (∀ y0 y1 y2 y3 y4 y5, LeO (spec_Written.j5 k y0 y1 y2 y3 y4 y5) (spec_Written.j5 (k + 1) y0 y1 y2 y3 y4 y5)) ∧ (∀ y0 y1 y2 y3 y4 y5, LeO (spec_Written.l4 k y0 y1 y2 y3 y4 y5) (spec_Written.l4 (k + 1) y0 y1 y2 y3 y4 y5)) ∧ (∀ y0 y1 y2 y3 y4 y5, LeO (spec_Written.l5 k y0 y1 y2 y3 y4 y5) (spec_Written.l5 (k + 1) y0 y1 y2 y3 y4 y5))
  | 0 => ⟨fun _ _ r h => by simp [spec_Written.l0] at h, fun _ _ _ r h => by simp [spec_Written.j1] at h, fun _ _ _ r h => by simp [spec_Written.l1] at h, fun _ _ _ r h => by simp [spec_Written.l2] at h, fun _ _ _ r h => by simp [spec_Written.l3] at h, fun _ _ _ _ _ _ r h => by simp [spec_Written.j5] at h, fun _ _ _ _ _ _ r h => by simp [spec_Written.l4] at h, fun _ _ _ _ _ _ r h => by simp [spec_Written.l5] at h⟩
  | k + 1 => by
    obtain ⟨ih0, ih1, ih2, ih3, ih4, ih5, ih6, ih7⟩ := spec_Written.mono_l k
    refine ⟨?_, ?_, ?_, ?_, ?_, ?_, ?_, ?_⟩
    · intro y0 y1
      unfold spec_Written.l0
      repeat' first
      | (with_reducible exact ih0 _ _)
      | (with_reducible exact ih1 _ _ _)
      | (with_reducible exact ih2 _ _ _)
      | (with_reducible exact ih3 _ _ _)
      | (with_reducible exact ih4 _ _ _)
      | (with_reducible exact ih5 _ _ _ _ _ _)
      | (with_reducible exact ih6 _ _ _ _ _ _)
      | (with_reducible exact ih7 _ _ _ _ _ _)
      | (with_reducible exact spec_Valued.mono _ _)
      | (with_reducible exact spec_small.mono _ _)
      | (with_reducible exact LeO.refl _)
      | (with_reducible exact LeO.none _)
      | (with_reducible refine LeO.ite ?_ ?_)
      | (with_reducible refine LeO.bind ?_ (fun _ => ?_))
      | exact ih0 _ _
      | exact ih1 _ _ _
      | exact ih2 _ _ _
      | exact ih3 _ _ _
      | exact ih4 _ _ _
      | exact ih5 _ _ _ _ _ _
      | exact ih6 _ _ _ _ _ _
      | exact ih7 _ _ _ _ _ _
      | exact spec_Valued.mono _ _
      | exact spec_small.mono _ _
      | exact LeO.none _
      | refine LeO.ite ?_ ?_
      | refine LeO.bind ?_ (fun _ => ?_)
    · intro y0 y1 y2
      unfold spec_Written.j1
      repeat' first
      | (with_reducible exact ih0 _ _)
      | (with_reducible exact ih1 _ _ _)
      | (with_reducible exact ih2 _ _ _)
      | (with_reducible exact ih3 _ _ _)
      | (with_reducible exact ih4 _ _ _)
      | (with_reducible exact ih5 _ _ _ _ _ _)
      | (with_reducible exact ih6 _ _ _ _ _ _)
      | (with_reducible exact ih7 _ _ _ _ _ _)
      | (with_reducible exact spec_Valued.mono _ _)
      | (with_reducible exact spec_small.mono _ _)
      | (with_reducible exact LeO.refl _)
      | (with_reducible exact LeO.none _)
      | (with_reducible refine LeO.ite ?_ ?_)
      | (with_reducible refine LeO.bind ?_ (fun _ => ?_))
      | exact ih0 _ _
      | exact ih1 _ _ _
      | exact ih2 _ _ _
      | exact ih3 _ _ _
      | exact ih4 _ _ _
      | exact ih5 _ _ _ _ _ _
      | exact ih6 _ _ _ _ _ _
      | exact ih7 _ _ _ _ _ _
      | exact spec_Valued.mono _ _
      | exact spec_small.mono _ _
      | exact LeO.none _
      | refine LeO.ite ?_ ?_
      | refine LeO.bind ?_ (fun _ => ?_)
    · intro y0 y1 y2
      unfold spec_Written.l1
      repeat' first
      | (with_reducible exact ih0 _ _)
      | (with_reducible exact ih1 _ _ _)
      | (with_reducible exact ih2 _ _ _)
      | (with_reducible exact ih3 _ _ _)
      | (with_reducible exact ih4 _ _ _)
      | (with_reducible exact ih5 _ _ _ _ _ _)
      | (with_reducible exact ih6 _ _ _ _ _ _)
      | (with_reducible exact ih7 _ _ _ _ _ _)
      | (with_reducible exact spec_Valued.mono _ _)
      | (with_reducible exact spec_small.mono _ _)
      | (with_reducible exact LeO.refl _)
      | (with_reducible exact LeO.none _)
      | (with_reducible refine LeO.ite ?_ ?_)
      | (with_reducible refine LeO.bind ?_ (fun _ => ?_))
      | exact ih0 _ _
      | exact ih1 _ _ _
      | exact ih2 _ _ _
      | exact ih3 _ _ _
      | exact ih4 _ _ _
      | exact ih5 _ _ _ _ _ _
      | exact ih6 _ _ _ _ _ _
      | exact ih7 _ _ _ _ _ _
      | exact spec_Valued.mono _ _
      | exact spec_small.mono _ _
      | exact LeO.none _
      | refine LeO.ite ?_ ?_
      | refine LeO.bind ?_ (fun _ => ?_)
    · intro y0 y1 y2
      unfold spec_Written.l2
      repeat' first
      | (with_reducible exact ih0 _ _)
      | (with_reducible exact ih1 _ _ _)
      | (with_reducible exact ih2 _ _ _)
      | (with_reducible exact ih3 _ _ _)
      | (with_reducible exact ih4 _ _ _)
      | (with_reducible exact ih5 _ _ _ _ _ _)
      | (with_reducible exact ih6 _ _ _ _ _ _)
      | (with_reducible exact ih7 _ _ _ _ _ _)
      | (with_reducible exact spec_Valued.mono _ _)
      | (with_reducible exact spec_small.mono _ _)
      | (with_reducible exact LeO.refl _)
      | (with_reducible exact LeO.none _)
      | (with_reducible refine LeO.ite ?_ ?_)
      | (with_reducible refine LeO.bind ?_ (fun _ => ?_))
      | exact ih0 _ _
      | exact ih1 _ _ _
      | exact ih2 _ _ _
      | exact ih3 _ _ _
      | exact ih4 _ _ _
      | exact ih5 _ _ _ _ _ _
      | exact ih6 _ _ _ _ _ _
      | exact ih7 _ _ _ _ _ _
      | exact spec_Valued.mono _ _
      | exact spec_small.mono _ _
      | exact LeO.none _
      | refine LeO.ite ?_ ?_
      | refine LeO.bind ?_ (fun _ => ?_)
    · intro y0 y1 y2
      unfold spec_Written.l3
      repeat' first
      | (with_reducible exact ih0 _ _)
      | (with_reducible exact ih1 _ _ _)
      | (with_reducible exact ih2 _ _ _)
      | (with_reducible exact ih3 _ _ _)
      | (with_reducible exact ih4 _ _ _)
      | (with_reducible exact ih5 _ _ _ _ _ _)
      | (with_reducible exact ih6 _ _ _ _ _ _)
      | (with_reducible exact ih7 _ _ _ _ _ _)
      | (with_reducible exact spec_Valued.mono _ _)
      | (with_reducible exact spec_small.mono _ _)
      | (with_reducible exact LeO.refl _)
      | (with_reducible exact LeO.none _)
      | (with_reducible refine LeO.ite ?_ ?_)
      | (with_reducible refine LeO.bind ?_ (fun _ => ?_))
      | exact ih0 _ _
      | exact ih1 _ _ _
      | exact ih2 _ _ _
      | exact ih3 _ _ _
      | exact ih4 _ _ _
      | exact ih5 _ _ _ _ _ _
      | exact ih6 _ _ _ _ _ _
      | exact ih7 _ _ _ _ _ _
      | exact spec_Valued.mono _ _
      | exact spec_small.mono _ _
      | exact LeO.none _
      | refine LeO.ite ?_ ?_
      | refine LeO.bind ?_ (fun _ => ?_)
    · intro y0 y1 y2 y3 y4 y5
      unfold spec_Written.j5
      repeat' first
      | (with_reducible exact ih0 _ _)
      | (with_reducible exact ih1 _ _ _)
      | (with_reducible exact ih2 _ _ _)
      | (with_reducible exact ih3 _ _ _)
      | (with_reducible exact ih4 _ _ _)
      | (with_reducible exact ih5 _ _ _ _ _ _)
      | (with_reducible exact ih6 _ _ _ _ _ _)
      | (with_reducible exact ih7 _ _ _ _ _ _)
      | (with_reducible exact spec_Valued.mono _ _)
      | (with_reducible exact spec_small.mono _ _)
      | (with_reducible exact LeO.refl _)
      | (with_reducible exact LeO.none _)
      | (with_reducible refine LeO.ite ?_ ?_)
      | (with_reducible refine LeO.bind ?_ (fun _ => ?_))
      | exact ih0 _ _
      | exact ih1 _ _ _
      | exact ih2 _ _ _
      | exact ih3 _ _ _
      | exact ih4 _ _ _
      | exact ih5 _ _ _ _ _ _
      | exact ih6 _ _ _ _ _ _
      | exact ih7 _ _ _ _ _ _
      | exact spec_Valued.mono _ _
      | exact spec_small.mono _ _
      | exact LeO.none _
      | refine LeO.ite ?_ ?_
      | refine LeO.bind ?_ (fun _ => ?_)
    · intro y0 y1 y2 y3 y4 y5
      unfold spec_Written.l4
      repeat' first
      | (with_reducible exact ih0 _ _)
      | (with_reducible exact ih1 _ _ _)
      | (with_reducible exact ih2 _ _ _)
      | (with_reducible exact ih3 _ _ _)
      | (with_reducible exact ih4 _ _ _)
      | (with_reducible exact ih5 _ _ _ _ _ _)
      | (with_reducible exact ih6 _ _ _ _ _ _)
      | (with_reducible exact ih7 _ _ _ _ _ _)
      | (with_reducible exact spec_Valued.mono _ _)
      | (with_reducible exact spec_small.mono _ _)
      | (with_reducible exact LeO.refl _)
      | (with_reducible exact LeO.none _)
      | (with_reducible refine LeO.ite ?_ ?_)
      | (with_reducible refine LeO.bind ?_ (fun _ => ?_))
      | exact ih0 _ _
      | exact ih1 _ _ _
      | exact ih2 _ _ _
      | exact ih3 _ _ _
      | exact ih4 _ _ _
      | exact ih5 _ _ _ _ _ _
      | exact ih6 _ _ _ _ _ _
      | exact ih7 _ _ _ _ _ _
      | exact spec_Valued.mono _ _
      | exact spec_small.mono _ _
      | exact LeO.none _
      | refine LeO.ite ?_ ?_
      | refine LeO.bind ?_ (fun _ => ?_)
    · intro y0 y1 y2 y3 y4 y5
      unfold spec_Written.l5
      repeat' first
      | (with_reducible exact ih0 _ _)
      | (with_reducible exact ih1 _ _ _)
      | (with_reducible exact ih2 _ _ _)
      | (with_reducible exact ih3 _ _ _)
      | (with_reducible exact ih4 _ _ _)
      | (with_reducible exact ih5 _ _ _ _ _ _)
      | (with_reducible exact ih6 _ _ _ _ _ _)
      | (with_reducible exact ih7 _ _ _ _ _ _)
      | (with_reducible exact spec_Valued.mono _ _)
      | (with_reducible exact spec_small.mono _ _)
      | (with_reducible exact LeO.refl _)
      | (with_reducible exact LeO.none _)
      | (with_reducible refine LeO.ite ?_ ?_)
      | (with_reducible refine LeO.bind ?_ (fun _ => ?_))
      | exact ih0 _ _
      | exact ih1 _ _ _
      | exact ih2 _ _ _
      | exact ih3 _ _ _
      | exact ih4 _ _ _
      | exact ih5 _ _ _ _ _ _
      | exact ih6 _ _ _ _ _ _
      | exact ih7 _ _ _ _ _ _
      | exact spec_Valued.mono _ _
      | exact spec_small.mono _ _
      | exact LeO.none _
      | refine LeO.ite ?_ ?_
      | refine LeO.bind ?_ (fun _ => ?_)
theorem spec_Written.mono : ∀ a0 k, LeO (spec_Written.f k a0) (spec_Written.f (k + 1) a0) := by
  intro a0 k
  obtain ⟨ih0, ih1, ih2, ih3, ih4, ih5, ih6, ih7⟩ := spec_Written.mono_l k
  unfold spec_Written.f
  repeat' first
      | (with_reducible exact ih0 _ _)
      | (with_reducible exact ih1 _ _ _)
      | (with_reducible exact ih2 _ _ _)
      | (with_reducible exact ih3 _ _ _)
      | (with_reducible exact ih4 _ _ _)
      | (with_reducible exact ih5 _ _ _ _ _ _)
      | (with_reducible exact ih6 _ _ _ _ _ _)
      | (with_reducible exact ih7 _ _ _ _ _ _)
      | (with_reducible exact spec_Valued.mono _ _)
      | (with_reducible exact spec_small.mono _ _)
      | (with_reducible exact LeO.refl _)
      | (with_reducible exact LeO.none _)
      | (with_reducible refine LeO.ite ?_ ?_)
      | (with_reducible refine LeO.bind ?_ (fun _ => ?_))
      | exact ih0 _ _
      | exact ih1 _ _ _
      | exact ih2 _ _ _
      | exact ih3 _ _ _
      | exact ih4 _ _ _
      | exact ih5 _ _ _ _ _ _
      | exact ih6 _ _ _ _ _ _
      | exact ih7 _ _ _ _ _ _
      | exact spec_Valued.mono _ _
      | exact spec_small.mono _ _
      | exact LeO.none _
      | refine LeO.ite ?_ ?_
      | refine LeO.bind ?_ (fun _ => ?_)
set_option maxHeartbeats 8000000 in
set_option maxRecDepth 100000 in
theorem spec_Written.calls (k : Nat) (A0 : Option Addr) (c0 : Nat) (l0 : List (S50)) (r : Bool) (w : World) (hr0 : Kd.C k50 w A0 l0.length l0) (hc0 : l0.length ≤ c0) (h : spec_Written.f k l0 = some r) :
    Calls Tryz.prog 24 #[.slice A0 l0.length c0] w fun e w' => e = .returned (.bool r) ∧ Below w.heap.size w w' := by
  have hu53 := Tryz.underlying53
  have HR0 := Aside0.mk hr0
  have HC0 := Aside0.mk hc0
  clear hr0 hc0
  have HB := Aside0.mk (Below.refl w.heap.size w)
  have H : (spec_Written.l0 k l0 0) = some r := h
  clear h
  have H' := Aside0.mk H
  clear H
  go_enter Tryz.func24, Tryz.ntmps24
  go_wp2
  repeat (go_quiet (fail); try go_wp2)
  go_loopg [3] k (fun kq v3 w' => ∃ (x3_1 : Int), v3 = .int .i64 x3_1 ∧ Aside0 (spec_Written.l0 kq l0 x3_1 = some r) ∧ Aside0 (kq ≤ k) ∧ Aside0 (Below w.heap.size w w'))
  case atStart => exact ⟨(0), (by first | rfl | (simp; done) | (simp [*]; done)), H', ⟨Nat.le_refl _⟩, ⟨by repeat (first | (with_reducible first | exact HB.out | apply below_alloc | apply pw_below_drewN | apply below_drew1) | exact HB.out)⟩⟩
  case round =>
    clear H'
    obtain ⟨x3_1, rfl, HA, HK1, HB⟩ := hrel
    cases gk with
    | zero => exact absurd HA.out (by simp [spec_Written.l0])
    | succ k1 =>
      have H := HA.out
      clear HA
      simp only [spec_Written.l0] at H
      by_cases c2 : x3_1 < (l0.length : Int)
      · rw [if_pos c2] at H
        have c2b0 : decide (x3_1 < (l0.length : Int)) = true := decide_eq_true c2
        clear c2
        have HC3 := Aside0.mk H
        clear H
        go_upto_region 4 with (fail)
        repeat (go_quiet (fail); go_upto_region 4 with (fail))
        go_cut [50] (fun v50 wc => ∃ (kq : Nat) (x50_2 : Bool), v50 = .bool x50_2 ∧ Aside0 (spec_Written.j1 kq l0 x3_1 x50_2 = some r) ∧ Aside0 (kq ≤ k1) ∧ Aside0 (Below w.heap.size w wc))
        case first =>
          have H := HC3.out
          clear HC3
          by_cases c4 : 0 ≤ x3_1
          · rw [if_pos c4] at H
            have c4b0 : decide (0 ≤ x3_1) = true := decide_eq_true c4
            clear c4
            (first | rw [c4b0] | (simp only [i64_w, i32_w]; rw [c4b0]) | skip)
            by_cases c5 : ((rd_T50 l0 x3_1).f0).toList = ([] : List UInt8)
            · rw [if_pos c5] at H
              have c5b0 : (((rd_T50 l0 x3_1).f0).toList == ([] : List UInt8)) = true := beq_iff_eq.mpr c5
              have c5b9 : ((rd_T50 l0 x3_1).f0).toList.isEmpty = true := by rw [c5]; rfl
              have c5b1 : (((rd_T50 l0 x3_1).f0).toList != ([] : List UInt8)) = false := bne_eq_false_iff_eq.mpr c5
              clear c5
              by_cases c6 : x3_1 > 0
              · rw [if_pos c6] at H
                have c6b0 : decide (0 < x3_1) = true := decide_eq_true c6
                clear c6
                have H' := Aside0.mk H
                clear H
                have p113 : 0 ≤ (x3_1 : Int) := of_decide_eq_true (by first | (with_reducible assumption) | assumption)
                have q113 : x3_1 < (l0.length : Int) := of_decide_eq_true (by first | (with_reducible assumption) | assumption)
                obtain ⟨ad113, A113_1, c113_1, A113_2, c113_2, e113, hx113_0, hx113_1, hx113_2, hl113_1, hi113_1, hl113_2, hi113_2⟩ := at_T50 HR0.out x3_1 p113 q113
                cases e113
                replace hx113_0 := (HB.out.cell (World.block_lt_of_cell? w _ hx113_0)).trans hx113_0
                replace hx113_1 := (HB.out.cell (World.block_lt_of_cell? w _ hx113_1)).trans hx113_1
                replace hx113_2 := (HB.out.cell (World.block_lt_of_cell? w _ hx113_2)).trans hx113_2
                have HR113_1 := Aside0.mk hi113_1
                have HC113_1 := Aside0.mk hl113_1
                clear hi113_1 hl113_1
                have HR113_2 := Aside0.mk hi113_2
                have HC113_2 := Aside0.mk hl113_2
                clear hi113_2 hl113_2
                replace p113 := eq_true p113
                replace q113 := eq_true q113
                go_wp2
                repeat (go_quiet (fail); try go_wp2)
                go_meet
                case rel => exact ⟨_, (true), (by first | rfl | (simp; done) | (simp [*]; done)), H', ⟨by have := HK1.out; first | omega | exact Nat.le_refl _⟩, ⟨by repeat (first | (with_reducible first | exact HB.out | apply below_alloc | apply pw_below_drewN | apply below_drew1) | exact HB.out)⟩⟩
              · rw [if_neg c6] at H
                have c6b0 : decide (0 < x3_1) = false := decide_eq_false c6
                clear c6
                have H' := Aside0.mk H
                clear H
                have p113 : 0 ≤ (x3_1 : Int) := of_decide_eq_true (by first | (with_reducible assumption) | assumption)
                have q113 : x3_1 < (l0.length : Int) := of_decide_eq_true (by first | (with_reducible assumption) | assumption)
                obtain ⟨ad113, A113_1, c113_1, A113_2, c113_2, e113, hx113_0, hx113_1, hx113_2, hl113_1, hi113_1, hl113_2, hi113_2⟩ := at_T50 HR0.out x3_1 p113 q113
                cases e113
                replace hx113_0 := (HB.out.cell (World.block_lt_of_cell? w _ hx113_0)).trans hx113_0
                replace hx113_1 := (HB.out.cell (World.block_lt_of_cell? w _ hx113_1)).trans hx113_1
                replace hx113_2 := (HB.out.cell (World.block_lt_of_cell? w _ hx113_2)).trans hx113_2
                have HR113_1 := Aside0.mk hi113_1
                have HC113_1 := Aside0.mk hl113_1
                clear hi113_1 hl113_1
                have HR113_2 := Aside0.mk hi113_2
                have HC113_2 := Aside0.mk hl113_2
                clear hi113_2 hl113_2
                replace p113 := eq_true p113
                replace q113 := eq_true q113
                have p114 : 0 ≤ (x3_1 : Int) := of_decide_eq_true (by first | (with_reducible assumption) | assumption)
                have q114 : x3_1 < (l0.length : Int) := of_decide_eq_true (by first | (with_reducible assumption) | assumption)
                obtain ⟨ad114, A114_1, c114_1, A114_2, c114_2, e114, hx114_0, hx114_1, hx114_2, hl114_1, hi114_1, hl114_2, hi114_2⟩ := at_T50 HR0.out x3_1 p114 q114
                obtain rfl : ad113 = ad114 := (by injection e114)
                replace hx114_0 := (HB.out.cell (World.block_lt_of_cell? w _ hx114_0)).trans hx114_0
                replace hx114_1 := (HB.out.cell (World.block_lt_of_cell? w _ hx114_1)).trans hx114_1
                replace hx114_2 := (HB.out.cell (World.block_lt_of_cell? w _ hx114_2)).trans hx114_2
                have HR114_1 := Aside0.mk hi114_1
                have HC114_1 := Aside0.mk hl114_1
                clear hi114_1 hl114_1
                have HR114_2 := Aside0.mk hi114_2
                have HC114_2 := Aside0.mk hl114_2
                clear hi114_2 hl114_2
                replace p114 := eq_true p114
                replace q114 := eq_true q114
                have ea_ := Option.some.inj (hx113_1.symm.trans hx114_1)
                injection ea_ with ea_ en_ ec_
                subst ea_
                subst ec_
                clear en_
                have ea_ := Option.some.inj (hx113_2.symm.trans hx114_2)
                injection ea_ with ea_ en_ ec_
                subst ea_
                subst ec_
                clear en_
                go_wp2
                repeat (go_quiet (fail); try go_wp2)
                go_meet
                case rel => exact ⟨_, (false), (by first | rfl | (simp; done) | (simp [*]; done)), H', ⟨by have := HK1.out; first | omega | exact Nat.le_refl _⟩, ⟨by repeat (first | (with_reducible first | exact HB.out | apply below_alloc | apply pw_below_drewN | apply below_drew1) | exact HB.out)⟩⟩
            · rw [if_neg c5] at H
              have c5b0 : (((rd_T50 l0 x3_1).f0).toList == ([] : List UInt8)) = false := beq_eq_false_iff_ne.mpr c5
              have c5b9 : ((rd_T50 l0 x3_1).f0).toList.isEmpty = false := isEmpty_no_ c5
              have c5b1 : (((rd_T50 l0 x3_1).f0).toList != ([] : List UInt8)) = true := bne_iff_ne.mpr c5
              replace H := Option.bind_eq_some_iff.mp H
              obtain ⟨t117, A70, H⟩ := H
              replace H : (if t117 = true then (spec_Written.j1 k1 l0 x3_1 (((rd_T50 l0 x3_1).f0).toList == ([100, 101, 102, 97, 117, 108, 116] : List UInt8))) else (spec_Written.j1 k1 l0 x3_1 true)) = some r := H
              have A7 := Aside0.mk A70
              clear A70
              by_cases c8 : t117 = true
              · subst c8
                have H1 : (spec_Written.j1 k1 l0 x3_1 (((rd_T50 l0 x3_1).f0).toList == ([100, 101, 102, 97, 117, 108, 116] : List UInt8))) = some r := by rw [if_pos rfl] at H; exact H
                clear H
                have H := H1
                clear H1
                have H' := Aside0.mk H
                clear H
                have p113 : 0 ≤ (x3_1 : Int) := of_decide_eq_true (by first | (with_reducible assumption) | assumption)
                have q113 : x3_1 < (l0.length : Int) := of_decide_eq_true (by first | (with_reducible assumption) | assumption)
                obtain ⟨ad113, A113_1, c113_1, A113_2, c113_2, e113, hx113_0, hx113_1, hx113_2, hl113_1, hi113_1, hl113_2, hi113_2⟩ := at_T50 HR0.out x3_1 p113 q113
                cases e113
                replace hx113_0 := (HB.out.cell (World.block_lt_of_cell? w _ hx113_0)).trans hx113_0
                replace hx113_1 := (HB.out.cell (World.block_lt_of_cell? w _ hx113_1)).trans hx113_1
                replace hx113_2 := (HB.out.cell (World.block_lt_of_cell? w _ hx113_2)).trans hx113_2
                have HR113_1 := Aside0.mk hi113_1
                have HC113_1 := Aside0.mk hl113_1
                clear hi113_1 hl113_1
                have HR113_2 := Aside0.mk hi113_2
                have HC113_2 := Aside0.mk hl113_2
                clear hi113_2 hl113_2
                replace p113 := eq_true p113
                replace q113 := eq_true q113
                have p115 : 0 ≤ (x3_1 : Int) := of_decide_eq_true (by first | (with_reducible assumption) | assumption)
                have q115 : x3_1 < (l0.length : Int) := of_decide_eq_true (by first | (with_reducible assumption) | assumption)
                obtain ⟨ad115, A115_1, c115_1, A115_2, c115_2, e115, hx115_0, hx115_1, hx115_2, hl115_1, hi115_1, hl115_2, hi115_2⟩ := at_T50 HR0.out x3_1 p115 q115
                obtain rfl : ad113 = ad115 := (by injection e115)
                replace hx115_0 := (HB.out.cell (World.block_lt_of_cell? w _ hx115_0)).trans hx115_0
                replace hx115_1 := (HB.out.cell (World.block_lt_of_cell? w _ hx115_1)).trans hx115_1
                replace hx115_2 := (HB.out.cell (World.block_lt_of_cell? w _ hx115_2)).trans hx115_2
                have HR115_1 := Aside0.mk hi115_1
                have HC115_1 := Aside0.mk hl115_1
                clear hi115_1 hl115_1
                have HR115_2 := Aside0.mk hi115_2
                have HC115_2 := Aside0.mk hl115_2
                clear hi115_2 hl115_2
                replace p115 := eq_true p115
                replace q115 := eq_true q115
                have ea_ := Option.some.inj (hx113_1.symm.trans hx115_1)
                injection ea_ with ea_ en_ ec_
                subst ea_
                subst ec_
                clear en_
                have ea_ := Option.some.inj (hx113_2.symm.trans hx115_2)
                injection ea_ with ea_ en_ ec_
                subst ea_
                subst ec_
                clear en_
                have p116 : 0 ≤ (x3_1 : Int) := of_decide_eq_true (by first | (with_reducible assumption) | assumption)
                have q116 : x3_1 < (l0.length : Int) := of_decide_eq_true (by first | (with_reducible assumption) | assumption)
                obtain ⟨ad116, A116_1, c116_1, A116_2, c116_2, e116, hx116_0, hx116_1, hx116_2, hl116_1, hi116_1, hl116_2, hi116_2⟩ := at_T50 HR0.out x3_1 p116 q116
                obtain rfl : ad113 = ad116 := (by injection e116)
                replace hx116_0 := (HB.out.cell (World.block_lt_of_cell? w _ hx116_0)).trans hx116_0
                replace hx116_1 := (HB.out.cell (World.block_lt_of_cell? w _ hx116_1)).trans hx116_1
                replace hx116_2 := (HB.out.cell (World.block_lt_of_cell? w _ hx116_2)).trans hx116_2
                have HR116_1 := Aside0.mk hi116_1
                have HC116_1 := Aside0.mk hl116_1
                clear hi116_1 hl116_1
                have HR116_2 := Aside0.mk hi116_2
                have HC116_2 := Aside0.mk hl116_2
                clear hi116_2 hl116_2
                replace p116 := eq_true p116
                replace q116 := eq_true q116
                have ea_ := Option.some.inj (hx113_1.symm.trans hx116_1)
                injection ea_ with ea_ en_ ec_
                subst ea_
                subst ec_
                clear en_
                have ea_ := Option.some.inj (hx113_2.symm.trans hx116_2)
                injection ea_ with ea_ en_ ec_
                subst ea_
                subst ec_
                clear en_
                go_wp2_with (first | (go_at_call 31; (with_reducible refine (spec_small.calls k1 ((rd_T50 l0 x3_1).f0) true _ A7.out).mono ?_); rintro e w' ⟨rfl, ⟨nd, rfl⟩⟩; (try first | exact ⟨rfl, _, World.drewN_drewN _ _ _⟩ | exact ⟨rfl, _, Eq.trans (World.drewN_drewN _ _ _) (congrArg (World.drewN _) (Nat.add_assoc _ _ _))⟩); have p118 : 0 ≤ (x3_1 : Int) := of_decide_eq_true (by first | (with_reducible assumption) | assumption); have q118 : x3_1 < (l0.length : Int) := of_decide_eq_true (by first | (with_reducible assumption) | assumption); obtain ⟨ad118, A118_1, c118_1, A118_2, c118_2, e118, hx118_0, hx118_1, hx118_2, hl118_1, hi118_1, hl118_2, hi118_2⟩ := at_T50 HR0.out x3_1 p118 q118; obtain rfl : ad113 = ad118 := (by injection e118); replace hx118_0 := (HB.out.cell (World.block_lt_of_cell? w _ hx118_0)).trans hx118_0; replace hx118_1 := (HB.out.cell (World.block_lt_of_cell? w _ hx118_1)).trans hx118_1; replace hx118_2 := (HB.out.cell (World.block_lt_of_cell? w _ hx118_2)).trans hx118_2; have HR118_1 := Aside0.mk hi118_1; have HC118_1 := Aside0.mk hl118_1; clear hi118_1 hl118_1; have HR118_2 := Aside0.mk hi118_2; have HC118_2 := Aside0.mk hl118_2; clear hi118_2 hl118_2; replace p118 := eq_true p118; replace q118 := eq_true q118; have ea_ := Option.some.inj (hx113_1.symm.trans hx118_1); injection ea_ with ea_ en_ ec_; subst ea_; subst ec_; clear en_; have ea_ := Option.some.inj (hx113_2.symm.trans hx118_2); injection ea_ with ea_ en_ ec_; subst ea_; subst ec_; clear en_))
                repeat (go_quiet (first | (go_at_call 31; (with_reducible refine (spec_small.calls k1 ((rd_T50 l0 x3_1).f0) true _ A7.out).mono ?_); rintro e w' ⟨rfl, ⟨nd, rfl⟩⟩; (try first | exact ⟨rfl, _, World.drewN_drewN _ _ _⟩ | exact ⟨rfl, _, Eq.trans (World.drewN_drewN _ _ _) (congrArg (World.drewN _) (Nat.add_assoc _ _ _))⟩); have p118 : 0 ≤ (x3_1 : Int) := of_decide_eq_true (by first | (with_reducible assumption) | assumption); have q118 : x3_1 < (l0.length : Int) := of_decide_eq_true (by first | (with_reducible assumption) | assumption); obtain ⟨ad118, A118_1, c118_1, A118_2, c118_2, e118, hx118_0, hx118_1, hx118_2, hl118_1, hi118_1, hl118_2, hi118_2⟩ := at_T50 HR0.out x3_1 p118 q118; obtain rfl : ad113 = ad118 := (by injection e118); replace hx118_0 := (HB.out.cell (World.block_lt_of_cell? w _ hx118_0)).trans hx118_0; replace hx118_1 := (HB.out.cell (World.block_lt_of_cell? w _ hx118_1)).trans hx118_1; replace hx118_2 := (HB.out.cell (World.block_lt_of_cell? w _ hx118_2)).trans hx118_2; have HR118_1 := Aside0.mk hi118_1; have HC118_1 := Aside0.mk hl118_1; clear hi118_1 hl118_1; have HR118_2 := Aside0.mk hi118_2; have HC118_2 := Aside0.mk hl118_2; clear hi118_2 hl118_2; replace p118 := eq_true p118; replace q118 := eq_true q118; have ea_ := Option.some.inj (hx113_1.symm.trans hx118_1); injection ea_ with ea_ en_ ec_; subst ea_; subst ec_; clear en_; have ea_ := Option.some.inj (hx113_2.symm.trans hx118_2); injection ea_ with ea_ en_ ec_; subst ea_; subst ec_; clear en_)); try go_wp2_with (first | (go_at_call 31; (with_reducible refine (spec_small.calls k1 ((rd_T50 l0 x3_1).f0) true _ A7.out).mono ?_); rintro e w' ⟨rfl, ⟨nd, rfl⟩⟩; (try first | exact ⟨rfl, _, World.drewN_drewN _ _ _⟩ | exact ⟨rfl, _, Eq.trans (World.drewN_drewN _ _ _) (congrArg (World.drewN _) (Nat.add_assoc _ _ _))⟩); have p118 : 0 ≤ (x3_1 : Int) := of_decide_eq_true (by first | (with_reducible assumption) | assumption); have q118 : x3_1 < (l0.length : Int) := of_decide_eq_true (by first | (with_reducible assumption) | assumption); obtain ⟨ad118, A118_1, c118_1, A118_2, c118_2, e118, hx118_0, hx118_1, hx118_2, hl118_1, hi118_1, hl118_2, hi118_2⟩ := at_T50 HR0.out x3_1 p118 q118; obtain rfl : ad113 = ad118 := (by injection e118); replace hx118_0 := (HB.out.cell (World.block_lt_of_cell? w _ hx118_0)).trans hx118_0; replace hx118_1 := (HB.out.cell (World.block_lt_of_cell? w _ hx118_1)).trans hx118_1; replace hx118_2 := (HB.out.cell (World.block_lt_of_cell? w _ hx118_2)).trans hx118_2; have HR118_1 := Aside0.mk hi118_1; have HC118_1 := Aside0.mk hl118_1; clear hi118_1 hl118_1; have HR118_2 := Aside0.mk hi118_2; have HC118_2 := Aside0.mk hl118_2; clear hi118_2 hl118_2; replace p118 := eq_true p118; replace q118 := eq_true q118; have ea_ := Option.some.inj (hx113_1.symm.trans hx118_1); injection ea_ with ea_ en_ ec_; subst ea_; subst ec_; clear en_; have ea_ := Option.some.inj (hx113_2.symm.trans hx118_2); injection ea_ with ea_ en_ ec_; subst ea_; subst ec_; clear en_)))
                go_meet
                case rel => exact ⟨_, ((((rd_T50 l0 x3_1).f0).toList == ([100, 101, 102, 97, 117, 108, 116] : List UInt8))), (by first | rfl | (simp; done) | (simp [*]; done)), H', ⟨by have := HK1.out; first | omega | exact Nat.le_refl _⟩, ⟨by repeat (first | (with_reducible first | exact HB.out | apply below_alloc | apply pw_below_drewN | apply below_drew1) | exact HB.out)⟩⟩
              · replace c8 := Bool.eq_false_iff.mpr c8
                subst c8
                have H1 : (spec_Written.j1 k1 l0 x3_1 true) = some r := by rw [if_neg (show ¬ (false = true) by decide)] at H; exact H
                clear H
                have H := H1
                clear H1
                have H' := Aside0.mk H
                clear H
                have p113 : 0 ≤ (x3_1 : Int) := of_decide_eq_true (by first | (with_reducible assumption) | assumption)
                have q113 : x3_1 < (l0.length : Int) := of_decide_eq_true (by first | (with_reducible assumption) | assumption)
                obtain ⟨ad113, A113_1, c113_1, A113_2, c113_2, e113, hx113_0, hx113_1, hx113_2, hl113_1, hi113_1, hl113_2, hi113_2⟩ := at_T50 HR0.out x3_1 p113 q113
                cases e113
                replace hx113_0 := (HB.out.cell (World.block_lt_of_cell? w _ hx113_0)).trans hx113_0
                replace hx113_1 := (HB.out.cell (World.block_lt_of_cell? w _ hx113_1)).trans hx113_1
                replace hx113_2 := (HB.out.cell (World.block_lt_of_cell? w _ hx113_2)).trans hx113_2
                have HR113_1 := Aside0.mk hi113_1
                have HC113_1 := Aside0.mk hl113_1
                clear hi113_1 hl113_1
                have HR113_2 := Aside0.mk hi113_2
                have HC113_2 := Aside0.mk hl113_2
                clear hi113_2 hl113_2
                replace p113 := eq_true p113
                replace q113 := eq_true q113
                have p115 : 0 ≤ (x3_1 : Int) := of_decide_eq_true (by first | (with_reducible assumption) | assumption)
                have q115 : x3_1 < (l0.length : Int) := of_decide_eq_true (by first | (with_reducible assumption) | assumption)
                obtain ⟨ad115, A115_1, c115_1, A115_2, c115_2, e115, hx115_0, hx115_1, hx115_2, hl115_1, hi115_1, hl115_2, hi115_2⟩ := at_T50 HR0.out x3_1 p115 q115
                obtain rfl : ad113 = ad115 := (by injection e115)
                replace hx115_0 := (HB.out.cell (World.block_lt_of_cell? w _ hx115_0)).trans hx115_0
                replace hx115_1 := (HB.out.cell (World.block_lt_of_cell? w _ hx115_1)).trans hx115_1
                replace hx115_2 := (HB.out.cell (World.block_lt_of_cell? w _ hx115_2)).trans hx115_2
                have HR115_1 := Aside0.mk hi115_1
                have HC115_1 := Aside0.mk hl115_1
                clear hi115_1 hl115_1
                have HR115_2 := Aside0.mk hi115_2
                have HC115_2 := Aside0.mk hl115_2
                clear hi115_2 hl115_2
                replace p115 := eq_true p115
                replace q115 := eq_true q115
                have ea_ := Option.some.inj (hx113_1.symm.trans hx115_1)
                injection ea_ with ea_ en_ ec_
                subst ea_
                subst ec_
                clear en_
                have ea_ := Option.some.inj (hx113_2.symm.trans hx115_2)
                injection ea_ with ea_ en_ ec_
                subst ea_
                subst ec_
                clear en_
                have p116 : 0 ≤ (x3_1 : Int) := of_decide_eq_true (by first | (with_reducible assumption) | assumption)
                have q116 : x3_1 < (l0.length : Int) := of_decide_eq_true (by first | (with_reducible assumption) | assumption)
                obtain ⟨ad116, A116_1, c116_1, A116_2, c116_2, e116, hx116_0, hx116_1, hx116_2, hl116_1, hi116_1, hl116_2, hi116_2⟩ := at_T50 HR0.out x3_1 p116 q116
                obtain rfl : ad113 = ad116 := (by injection e116)
                replace hx116_0 := (HB.out.cell (World.block_lt_of_cell? w _ hx116_0)).trans hx116_0
                replace hx116_1 := (HB.out.cell (World.block_lt_of_cell? w _ hx116_1)).trans hx116_1
                replace hx116_2 := (HB.out.cell (World.block_lt_of_cell? w _ hx116_2)).trans hx116_2
                have HR116_1 := Aside0.mk hi116_1
                have HC116_1 := Aside0.mk hl116_1
                clear hi116_1 hl116_1
                have HR116_2 := Aside0.mk hi116_2
                have HC116_2 := Aside0.mk hl116_2
                clear hi116_2 hl116_2
                replace p116 := eq_true p116
                replace q116 := eq_true q116
                have ea_ := Option.some.inj (hx113_1.symm.trans hx116_1)
                injection ea_ with ea_ en_ ec_
                subst ea_
                subst ec_
                clear en_
                have ea_ := Option.some.inj (hx113_2.symm.trans hx116_2)
                injection ea_ with ea_ en_ ec_
                subst ea_
                subst ec_
                clear en_
                go_wp2_with (first | (go_at_call 31; (with_reducible refine (spec_small.calls k1 ((rd_T50 l0 x3_1).f0) false _ A7.out).mono ?_); rintro e w' ⟨rfl, ⟨nd, rfl⟩⟩; (try first | exact ⟨rfl, _, World.drewN_drewN _ _ _⟩ | exact ⟨rfl, _, Eq.trans (World.drewN_drewN _ _ _) (congrArg (World.drewN _) (Nat.add_assoc _ _ _))⟩)))
                repeat (go_quiet (first | (go_at_call 31; (with_reducible refine (spec_small.calls k1 ((rd_T50 l0 x3_1).f0) false _ A7.out).mono ?_); rintro e w' ⟨rfl, ⟨nd, rfl⟩⟩; (try first | exact ⟨rfl, _, World.drewN_drewN _ _ _⟩ | exact ⟨rfl, _, Eq.trans (World.drewN_drewN _ _ _) (congrArg (World.drewN _) (Nat.add_assoc _ _ _))⟩))); try go_wp2_with (first | (go_at_call 31; (with_reducible refine (spec_small.calls k1 ((rd_T50 l0 x3_1).f0) false _ A7.out).mono ?_); rintro e w' ⟨rfl, ⟨nd, rfl⟩⟩; (try first | exact ⟨rfl, _, World.drewN_drewN _ _ _⟩ | exact ⟨rfl, _, Eq.trans (World.drewN_drewN _ _ _) (congrArg (World.drewN _) (Nat.add_assoc _ _ _))⟩))))
                go_meet
                case rel => exact ⟨_, (true), (by first | rfl | (simp; done) | (simp [*]; done)), H', ⟨by have := HK1.out; first | omega | exact Nat.le_refl _⟩, ⟨by repeat (first | (with_reducible first | exact HB.out | apply below_alloc | apply pw_below_drewN | apply below_drew1) | exact HB.out)⟩⟩
          · rw [if_neg c4] at H
            exact absurd H (by simp)
        case rest =>
          clear HC3
          try clear c1
          try clear p1
          try clear q1
          try clear hx1
          try clear c2
          try clear c2b0
          try clear p2
          try clear c4
          try clear c4b0
          try clear c5
          try clear c5b0
          try clear c5b1
          try clear c6
          try clear c6b0
          try clear c8
          try clear hx113_0
          try clear hx113_1
          try clear hx113_2
          try clear hx114_0
          try clear hx114_1
          try clear hx114_2
          try clear hx115_0
          try clear hx115_1
          try clear hx115_2
          try clear hx116_0
          try clear hx116_1
          try clear hx116_2
          try clear hx118_0
          try clear hx118_1
          try clear hx118_2
          try clear p113
          try clear p114
          try clear p115
          try clear p116
          try clear p118
          try clear q113
          try clear q114
          try clear q115
          try clear q116
          try clear q118
          obtain ⟨kq, x50_2, rfl, HA, HJ2, HB⟩ := hcut
          cases kq with
          | zero => exact absurd HA.out (by simp [spec_Written.j1])
          | succ kj2 =>
            have H := HA.out
            clear HA
            simp only [spec_Written.j1] at H
            by_cases c9 : x50_2 = true
            · subst c9
              have H1 : (some false) = some r := by rw [if_pos rfl] at H; exact H
              clear H
              have H := H1
              clear H1
              obtain rfl := Option.some.inj H
              go_wp2
              repeat (go_quiet (fail); try go_wp2)
              go_ret
              exact ⟨by first | rfl | (simp [errW_none, errW_some] <;> rfl) | (simp [*, errW_none, errW_some] <;> rfl), by repeat (first | (with_reducible first | exact HB.out | apply below_alloc | apply pw_below_drewN | apply below_drew1) | exact HB.out)⟩
            · replace c9 := Bool.eq_false_iff.mpr c9
              subst c9
              have H1 : (spec_Written.l1 kj2 l0 x3_1 0) = some r := by rw [if_neg (show ¬ (false = true) by decide)] at H; exact H
              clear H
              have H := H1
              clear H1
              have H' := Aside0.mk H
              clear H
              go_wp2
              repeat (go_quiet (fail); try go_wp2)
              go_loopg [4] kj2 (fun kq v4 w' => ∃ (x4_3 : Int), v4 = .int .i64 x4_3 ∧ Aside0 (spec_Written.l1 kq l0 x3_1 x4_3 = some r) ∧ Aside0 (kq ≤ kj2) ∧ Aside0 (Below w.heap.size w w'))
              case atStart => exact ⟨(0), (by first | rfl | (simp; done) | (simp [*]; done)), H', ⟨Nat.le_refl _⟩, ⟨by repeat (first | (with_reducible first | exact HB.out | apply below_alloc | apply pw_below_drewN | apply below_drew1) | exact HB.out)⟩⟩
              case round =>
                clear H'
                try clear c1
                try clear p1
                try clear q1
                try clear hx1
                try clear c2
                try clear c2b0
                try clear p2
                try clear c4
                try clear c4b0
                try clear c5
                try clear c5b0
                try clear c5b1
                try clear c6
                try clear c6b0
                try clear c8
                try clear c9
                try clear hx113_0
                try clear hx113_1
                try clear hx113_2
                try clear hx114_0
                try clear hx114_1
                try clear hx114_2
                try clear hx115_0
                try clear hx115_1
                try clear hx115_2
                try clear hx116_0
                try clear hx116_1
                try clear hx116_2
                try clear hx118_0
                try clear hx118_1
                try clear hx118_2
                try clear p1
                try clear p113
                try clear p114
                try clear p115
                try clear p116
                try clear p118
                try clear p2
                try clear q1
                try clear q113
                try clear q114
                try clear q115
                try clear q116
                try clear q118
                obtain ⟨x4_3, rfl, HA, HK3, HB⟩ := hrel
                cases gk with
                | zero => exact absurd HA.out (by simp [spec_Written.l1])
                | succ k3 =>
                  have H := HA.out
                  clear HA
                  simp only [spec_Written.l1] at H
                  by_cases c10 : x4_3 < x3_1
                  · rw [if_pos c10] at H
                    have c10b0 : decide (x4_3 < x3_1) = true := decide_eq_true c10
                    clear c10
                    by_cases c11 : 0 ≤ x4_3
                    · rw [if_pos c11] at H
                      have c11b0 : decide (0 ≤ x4_3) = true := decide_eq_true c11
                      clear c11
                      by_cases c12 : x4_3 < (l0.length : Int)
                      · rw [if_pos c12] at H
                        have c12b0 : decide (x4_3 < (l0.length : Int)) = true := decide_eq_true c12
                        clear c12
                        by_cases c13 : 0 ≤ x3_1
                        · rw [if_pos c13] at H
                          have c13b0 : decide (0 ≤ x3_1) = true := decide_eq_true c13
                          clear c13
                          by_cases c14 : x3_1 < (l0.length : Int)
                          · rw [if_pos c14] at H
                            have c14b0 : decide (x3_1 < (l0.length : Int)) = true := decide_eq_true c14
                            clear c14
                            by_cases c15 : ((rd_T50 l0 x4_3).f0).toList = ((rd_T50 l0 x3_1).f0).toList
                            · rw [if_pos c15] at H
                              have c15b0 : (((rd_T50 l0 x4_3).f0).toList == ((rd_T50 l0 x3_1).f0).toList) = true := beq_iff_eq.mpr c15
                              have c15b1 : (((rd_T50 l0 x4_3).f0).toList != ((rd_T50 l0 x3_1).f0).toList) = false := bne_eq_false_iff_eq.mpr c15
                              clear c15
                              obtain rfl := Option.some.inj H
                              have p119 : 0 ≤ (x4_3 : Int) := of_decide_eq_true (by first | (with_reducible assumption) | assumption)
                              have q119 : x4_3 < (l0.length : Int) := of_decide_eq_true (by first | (with_reducible assumption) | assumption)
                              obtain ⟨ad119, A119_1, c119_1, A119_2, c119_2, e119, hx119_0, hx119_1, hx119_2, hl119_1, hi119_1, hl119_2, hi119_2⟩ := at_T50 HR0.out x4_3 p119 q119
                              cases e119
                              replace hx119_0 := (HB.out.cell (World.block_lt_of_cell? w _ hx119_0)).trans hx119_0
                              replace hx119_1 := (HB.out.cell (World.block_lt_of_cell? w _ hx119_1)).trans hx119_1
                              replace hx119_2 := (HB.out.cell (World.block_lt_of_cell? w _ hx119_2)).trans hx119_2
                              have HR119_1 := Aside0.mk hi119_1
                              have HC119_1 := Aside0.mk hl119_1
                              clear hi119_1 hl119_1
                              have HR119_2 := Aside0.mk hi119_2
                              have HC119_2 := Aside0.mk hl119_2
                              clear hi119_2 hl119_2
                              replace p119 := eq_true p119
                              replace q119 := eq_true q119
                              have p120 : 0 ≤ (x3_1 : Int) := of_decide_eq_true (by first | (with_reducible assumption) | assumption)
                              have q120 : x3_1 < (l0.length : Int) := of_decide_eq_true (by first | (with_reducible assumption) | assumption)
                              obtain ⟨ad120, A120_1, c120_1, A120_2, c120_2, e120, hx120_0, hx120_1, hx120_2, hl120_1, hi120_1, hl120_2, hi120_2⟩ := at_T50 HR0.out x3_1 p120 q120
                              obtain rfl : ad119 = ad120 := (by injection e120)
                              replace hx120_0 := (HB.out.cell (World.block_lt_of_cell? w _ hx120_0)).trans hx120_0
                              replace hx120_1 := (HB.out.cell (World.block_lt_of_cell? w _ hx120_1)).trans hx120_1
                              replace hx120_2 := (HB.out.cell (World.block_lt_of_cell? w _ hx120_2)).trans hx120_2
                              have HR120_1 := Aside0.mk hi120_1
                              have HC120_1 := Aside0.mk hl120_1
                              clear hi120_1 hl120_1
                              have HR120_2 := Aside0.mk hi120_2
                              have HC120_2 := Aside0.mk hl120_2
                              clear hi120_2 hl120_2
                              replace p120 := eq_true p120
                              replace q120 := eq_true q120
                              go_wp2
                              repeat (go_quiet (fail); try go_wp2)
                              go_ret
                              exact ⟨by first | rfl | (simp [errW_none, errW_some] <;> rfl) | (simp [*, errW_none, errW_some] <;> rfl), by repeat (first | (with_reducible first | exact HB.out | apply below_alloc | apply pw_below_drewN | apply below_drew1) | exact HB.out)⟩
                            · rw [if_neg c15] at H
                              have c15b0 : (((rd_T50 l0 x4_3).f0).toList == ((rd_T50 l0 x3_1).f0).toList) = false := beq_eq_false_iff_ne.mpr c15
                              have c15b1 : (((rd_T50 l0 x4_3).f0).toList != ((rd_T50 l0 x3_1).f0).toList) = true := bne_iff_ne.mpr c15
                              have H' := Aside0.mk H
                              clear H
                              have p119 : 0 ≤ (x4_3 : Int) := of_decide_eq_true (by first | (with_reducible assumption) | assumption)
                              have q119 : x4_3 < (l0.length : Int) := of_decide_eq_true (by first | (with_reducible assumption) | assumption)
                              obtain ⟨ad119, A119_1, c119_1, A119_2, c119_2, e119, hx119_0, hx119_1, hx119_2, hl119_1, hi119_1, hl119_2, hi119_2⟩ := at_T50 HR0.out x4_3 p119 q119
                              cases e119
                              replace hx119_0 := (HB.out.cell (World.block_lt_of_cell? w _ hx119_0)).trans hx119_0
                              replace hx119_1 := (HB.out.cell (World.block_lt_of_cell? w _ hx119_1)).trans hx119_1
                              replace hx119_2 := (HB.out.cell (World.block_lt_of_cell? w _ hx119_2)).trans hx119_2
                              have HR119_1 := Aside0.mk hi119_1
                              have HC119_1 := Aside0.mk hl119_1
                              clear hi119_1 hl119_1
                              have HR119_2 := Aside0.mk hi119_2
                              have HC119_2 := Aside0.mk hl119_2
                              clear hi119_2 hl119_2
                              replace p119 := eq_true p119
                              replace q119 := eq_true q119
                              have p120 : 0 ≤ (x3_1 : Int) := of_decide_eq_true (by first | (with_reducible assumption) | assumption)
                              have q120 : x3_1 < (l0.length : Int) := of_decide_eq_true (by first | (with_reducible assumption) | assumption)
                              obtain ⟨ad120, A120_1, c120_1, A120_2, c120_2, e120, hx120_0, hx120_1, hx120_2, hl120_1, hi120_1, hl120_2, hi120_2⟩ := at_T50 HR0.out x3_1 p120 q120
                              obtain rfl : ad119 = ad120 := (by injection e120)
                              replace hx120_0 := (HB.out.cell (World.block_lt_of_cell? w _ hx120_0)).trans hx120_0
                              replace hx120_1 := (HB.out.cell (World.block_lt_of_cell? w _ hx120_1)).trans hx120_1
                              replace hx120_2 := (HB.out.cell (World.block_lt_of_cell? w _ hx120_2)).trans hx120_2
                              have HR120_1 := Aside0.mk hi120_1
                              have HC120_1 := Aside0.mk hl120_1
                              clear hi120_1 hl120_1
                              have HR120_2 := Aside0.mk hi120_2
                              have HC120_2 := Aside0.mk hl120_2
                              clear hi120_2 hl120_2
                              replace p120 := eq_true p120
                              replace q120 := eq_true q120
                              go_wp2
                              repeat (go_quiet (fail); try go_wp2)
                              go_roundg k3
                              case measure => have := HK1.out; have := HJ2.out; have := HK3.out; omega
                              case rel => exact ⟨(wrap64 (x4_3 + 1)), (by first | rfl | (simp; done) | (simp [*]; done)), H', ⟨by have := HK1.out; have := HJ2.out; have := HK3.out; omega⟩, ⟨by repeat (first | (with_reducible first | exact HB.out | apply below_alloc | apply pw_below_drewN | apply below_drew1) | exact HB.out)⟩⟩
                          · rw [if_neg c14] at H
                            exact absurd H (by simp)
                        · rw [if_neg c13] at H
                          exact absurd H (by simp)
                      · rw [if_neg c12] at H
                        exact absurd H (by simp)
                    · rw [if_neg c11] at H
                      exact absurd H (by simp)
                  · rw [if_neg c10] at H
                    have c10b0 : decide (x4_3 < x3_1) = false := decide_eq_false c10
                    clear c10
                    have H' := Aside0.mk H
                    clear H
                    go_wp2
                    repeat (go_quiet (fail); try go_wp2)
                    go_loopg [5] k3 (fun kq v5 w' => ∃ (x5_4 : Int), v5 = .int .i64 x5_4 ∧ Aside0 (spec_Written.l2 kq l0 x3_1 x5_4 = some r) ∧ Aside0 (kq ≤ k3) ∧ Aside0 (Below w.heap.size w w'))
                    case atStart => exact ⟨(0), (by first | rfl | (simp; done) | (simp [*]; done)), H', ⟨Nat.le_refl _⟩, ⟨by repeat (first | (with_reducible first | exact HB.out | apply below_alloc | apply pw_below_drewN | apply below_drew1) | exact HB.out)⟩⟩
                    case round =>
                      clear H'
                      try clear c1
                      try clear p1
                      try clear q1
                      try clear hx1
                      try clear c2
                      try clear c2b0
                      try clear p2
                      try clear c4
                      try clear c4b0
                      try clear c5
                      try clear c5b0
                      try clear c5b1
                      try clear c6
                      try clear c6b0
                      try clear p6
                      try clear c8
                      try clear c9
                      try clear c10
                      try clear c10b0
                      try clear c11
                      try clear c11b0
                      try clear p11
                      try clear q11
                      try clear hx11
                      try clear c12
                      try clear c12b0
                      try clear p12
                      try clear q12
                      try clear hx12
                      try clear c13
                      try clear c13b0
                      try clear c14
                      try clear c14b0
                      try clear c15
                      try clear c15b0
                      try clear c15b1
                      try clear hx113_0
                      try clear hx113_1
                      try clear hx113_2
                      try clear hx114_0
                      try clear hx114_1
                      try clear hx114_2
                      try clear hx115_0
                      try clear hx115_1
                      try clear hx115_2
                      try clear hx116_0
                      try clear hx116_1
                      try clear hx116_2
                      try clear hx118_0
                      try clear hx118_1
                      try clear hx118_2
                      try clear hx119_0
                      try clear hx119_1
                      try clear hx119_2
                      try clear hx120_0
                      try clear hx120_1
                      try clear hx120_2
                      try clear p1
                      try clear p113
                      try clear p114
                      try clear p115
                      try clear p116
                      try clear p118
                      try clear p119
                      try clear p120
                      try clear p2
                      try clear q1
                      try clear q113
                      try clear q114
                      try clear q115
                      try clear q116
                      try clear q118
                      try clear q119
                      try clear q120
                      obtain ⟨x5_4, rfl, HA, HK4, HB⟩ := hrel
                      cases gk with
                      | zero => exact absurd HA.out (by simp [spec_Written.l2])
                      | succ k4 =>
                        have H := HA.out
                        clear HA
                        simp only [spec_Written.l2] at H
                        by_cases c16 : 0 ≤ x3_1
                        · rw [if_pos c16] at H
                          have c16b0 : decide (0 ≤ x3_1) = true := decide_eq_true c16
                          clear c16
                          by_cases c17 : x3_1 < (l0.length : Int)
                          · rw [if_pos c17] at H
                            have c17b0 : decide (x3_1 < (l0.length : Int)) = true := decide_eq_true c17
                            clear c17
                            by_cases c18 : x5_4 < (((rd_T50 l0 x3_1).f1).length : Int)
                            · rw [if_pos c18] at H
                              have c18b0 : decide (x5_4 < (((rd_T50 l0 x3_1).f1).length : Int)) = true := decide_eq_true c18
                              clear c18
                              by_cases c19 : 0 ≤ x5_4
                              · rw [if_pos c19] at H
                                have c19b0 : decide (0 ≤ x5_4) = true := decide_eq_true c19
                                clear c19
                                by_cases c20 : (rdOf ByteArray.empty ((rd_T50 l0 x3_1).f1) x5_4).toList = ([] : List UInt8)
                                · rw [if_pos c20] at H
                                  have c20b0 : ((rdOf ByteArray.empty ((rd_T50 l0 x3_1).f1) x5_4).toList == ([] : List UInt8)) = true := beq_iff_eq.mpr c20
                                  have c20b9 : (rdOf ByteArray.empty ((rd_T50 l0 x3_1).f1) x5_4).toList.isEmpty = true := by rw [c20]; rfl
                                  have c20b1 : ((rdOf ByteArray.empty ((rd_T50 l0 x3_1).f1) x5_4).toList != ([] : List UInt8)) = false := bne_eq_false_iff_eq.mpr c20
                                  clear c20
                                  have H' := Aside0.mk H
                                  clear H
                                  have p121 : 0 ≤ (x3_1 : Int) := of_decide_eq_true (by first | (with_reducible assumption) | assumption)
                                  have q121 : x3_1 < (l0.length : Int) := of_decide_eq_true (by first | (with_reducible assumption) | assumption)
                                  obtain ⟨ad121, A121_1, c121_1, A121_2, c121_2, e121, hx121_0, hx121_1, hx121_2, hl121_1, hi121_1, hl121_2, hi121_2⟩ := at_T50 HR0.out x3_1 p121 q121
                                  cases e121
                                  replace hx121_0 := (HB.out.cell (World.block_lt_of_cell? w _ hx121_0)).trans hx121_0
                                  replace hx121_1 := (HB.out.cell (World.block_lt_of_cell? w _ hx121_1)).trans hx121_1
                                  replace hx121_2 := (HB.out.cell (World.block_lt_of_cell? w _ hx121_2)).trans hx121_2
                                  have HR121_1 := Aside0.mk hi121_1
                                  have HC121_1 := Aside0.mk hl121_1
                                  clear hi121_1 hl121_1
                                  have HR121_2 := Aside0.mk hi121_2
                                  have HC121_2 := Aside0.mk hl121_2
                                  clear hi121_2 hl121_2
                                  replace p121 := eq_true p121
                                  replace q121 := eq_true q121
                                  have p122 : 0 ≤ (x3_1 : Int) := of_decide_eq_true (by first | (with_reducible assumption) | assumption)
                                  have q122 : x3_1 < (l0.length : Int) := of_decide_eq_true (by first | (with_reducible assumption) | assumption)
                                  obtain ⟨ad122, A122_1, c122_1, A122_2, c122_2, e122, hx122_0, hx122_1, hx122_2, hl122_1, hi122_1, hl122_2, hi122_2⟩ := at_T50 HR0.out x3_1 p122 q122
                                  obtain rfl : ad121 = ad122 := (by injection e122)
                                  replace hx122_0 := (HB.out.cell (World.block_lt_of_cell? w _ hx122_0)).trans hx122_0
                                  replace hx122_1 := (HB.out.cell (World.block_lt_of_cell? w _ hx122_1)).trans hx122_1
                                  replace hx122_2 := (HB.out.cell (World.block_lt_of_cell? w _ hx122_2)).trans hx122_2
                                  have HR122_1 := Aside0.mk hi122_1
                                  have HC122_1 := Aside0.mk hl122_1
                                  clear hi122_1 hl122_1
                                  have HR122_2 := Aside0.mk hi122_2
                                  have HC122_2 := Aside0.mk hl122_2
                                  clear hi122_2 hl122_2
                                  replace p122 := eq_true p122
                                  replace q122 := eq_true q122
                                  have ea_ := Option.some.inj (hx121_1.symm.trans hx122_1)
                                  injection ea_ with ea_ en_ ec_
                                  subst ea_
                                  subst ec_
                                  clear en_
                                  have ea_ := Option.some.inj (hx121_2.symm.trans hx122_2)
                                  injection ea_ with ea_ en_ ec_
                                  subst ea_
                                  subst ec_
                                  clear en_
                                  have p123 : 0 ≤ (x5_4 : Int) := of_decide_eq_true (by first | (with_reducible assumption) | assumption)
                                  have q123 : x5_4 < (((rd_T50 l0 x3_1).f1).length : Int) := of_decide_eq_true (by first | (with_reducible assumption) | assumption)
                                  obtain ⟨ad123, e123, hx123_0⟩ := Kd.at_string HR122_1.out x5_4 p123 q123
                                  cases e123
                                  replace hx123_0 := (HB.out.cell (World.block_lt_of_cell? w _ hx123_0)).trans hx123_0
                                  replace p123 := eq_true p123
                                  replace q123 := eq_true q123
                                  go_wp2
                                  repeat (go_quiet (fail); try go_wp2)
                                  go_roundg k4
                                  case measure => have := HK1.out; have := HJ2.out; have := HK3.out; have := HK4.out; omega
                                  case rel => exact ⟨(wrap64 (x5_4 + 1)), (by first | rfl | (simp; done) | (simp [*]; done)), H', ⟨by have := HK1.out; have := HJ2.out; have := HK3.out; have := HK4.out; omega⟩, ⟨by repeat (first | (with_reducible first | exact HB.out | apply below_alloc | apply pw_below_drewN | apply below_drew1) | exact HB.out)⟩⟩
                                · rw [if_neg c20] at H
                                  have c20b0 : ((rdOf ByteArray.empty ((rd_T50 l0 x3_1).f1) x5_4).toList == ([] : List UInt8)) = false := beq_eq_false_iff_ne.mpr c20
                                  have c20b9 : (rdOf ByteArray.empty ((rd_T50 l0 x3_1).f1) x5_4).toList.isEmpty = false := isEmpty_no_ c20
                                  have c20b1 : ((rdOf ByteArray.empty ((rd_T50 l0 x3_1).f1) x5_4).toList != ([] : List UInt8)) = true := bne_iff_ne.mpr c20
                                  replace H := Option.bind_eq_some_iff.mp H
                                  obtain ⟨t126, A210, H⟩ := H
                                  replace H : (if t126 = true then (spec_Written.l2 k4 l0 x3_1 (wrap64 (x5_4 + 1))) else (some false)) = some r := H
                                  have A21 := Aside0.mk A210
                                  clear A210
                                  by_cases c22 : t126 = true
                                  · subst c22
                                    have H1 : (spec_Written.l2 k4 l0 x3_1 (wrap64 (x5_4 + 1))) = some r := by rw [if_pos rfl] at H; exact H
                                    clear H
                                    have H := H1
                                    clear H1
                                    have H' := Aside0.mk H
                                    clear H
                                    have p121 : 0 ≤ (x3_1 : Int) := of_decide_eq_true (by first | (with_reducible assumption) | assumption)
                                    have q121 : x3_1 < (l0.length : Int) := of_decide_eq_true (by first | (with_reducible assumption) | assumption)
                                    obtain ⟨ad121, A121_1, c121_1, A121_2, c121_2, e121, hx121_0, hx121_1, hx121_2, hl121_1, hi121_1, hl121_2, hi121_2⟩ := at_T50 HR0.out x3_1 p121 q121
                                    cases e121
                                    replace hx121_0 := (HB.out.cell (World.block_lt_of_cell? w _ hx121_0)).trans hx121_0
                                    replace hx121_1 := (HB.out.cell (World.block_lt_of_cell? w _ hx121_1)).trans hx121_1
                                    replace hx121_2 := (HB.out.cell (World.block_lt_of_cell? w _ hx121_2)).trans hx121_2
                                    have HR121_1 := Aside0.mk hi121_1
                                    have HC121_1 := Aside0.mk hl121_1
                                    clear hi121_1 hl121_1
                                    have HR121_2 := Aside0.mk hi121_2
                                    have HC121_2 := Aside0.mk hl121_2
                                    clear hi121_2 hl121_2
                                    replace p121 := eq_true p121
                                    replace q121 := eq_true q121
                                    have p122 : 0 ≤ (x3_1 : Int) := of_decide_eq_true (by first | (with_reducible assumption) | assumption)
                                    have q122 : x3_1 < (l0.length : Int) := of_decide_eq_true (by first | (with_reducible assumption) | assumption)
                                    obtain ⟨ad122, A122_1, c122_1, A122_2, c122_2, e122, hx122_0, hx122_1, hx122_2, hl122_1, hi122_1, hl122_2, hi122_2⟩ := at_T50 HR0.out x3_1 p122 q122
                                    obtain rfl : ad121 = ad122 := (by injection e122)
                                    replace hx122_0 := (HB.out.cell (World.block_lt_of_cell? w _ hx122_0)).trans hx122_0
                                    replace hx122_1 := (HB.out.cell (World.block_lt_of_cell? w _ hx122_1)).trans hx122_1
                                    replace hx122_2 := (HB.out.cell (World.block_lt_of_cell? w _ hx122_2)).trans hx122_2
                                    have HR122_1 := Aside0.mk hi122_1
                                    have HC122_1 := Aside0.mk hl122_1
                                    clear hi122_1 hl122_1
                                    have HR122_2 := Aside0.mk hi122_2
                                    have HC122_2 := Aside0.mk hl122_2
                                    clear hi122_2 hl122_2
                                    replace p122 := eq_true p122
                                    replace q122 := eq_true q122
                                    have ea_ := Option.some.inj (hx121_1.symm.trans hx122_1)
                                    injection ea_ with ea_ en_ ec_
                                    subst ea_
                                    subst ec_
                                    clear en_
                                    have ea_ := Option.some.inj (hx121_2.symm.trans hx122_2)
                                    injection ea_ with ea_ en_ ec_
                                    subst ea_
                                    subst ec_
                                    clear en_
                                    have p123 : 0 ≤ (x5_4 : Int) := of_decide_eq_true (by first | (with_reducible assumption) | assumption)
                                    have q123 : x5_4 < (((rd_T50 l0 x3_1).f1).length : Int) := of_decide_eq_true (by first | (with_reducible assumption) | assumption)
                                    obtain ⟨ad123, e123, hx123_0⟩ := Kd.at_string HR122_1.out x5_4 p123 q123
                                    cases e123
                                    replace hx123_0 := (HB.out.cell (World.block_lt_of_cell? w _ hx123_0)).trans hx123_0
                                    replace p123 := eq_true p123
                                    replace q123 := eq_true q123
                                    have p124 : 0 ≤ (x3_1 : Int) := of_decide_eq_true (by first | (with_reducible assumption) | assumption)
                                    have q124 : x3_1 < (l0.length : Int) := of_decide_eq_true (by first | (with_reducible assumption) | assumption)
                                    obtain ⟨ad124, A124_1, c124_1, A124_2, c124_2, e124, hx124_0, hx124_1, hx124_2, hl124_1, hi124_1, hl124_2, hi124_2⟩ := at_T50 HR0.out x3_1 p124 q124
                                    obtain rfl : ad121 = ad124 := (by injection e124)
                                    replace hx124_0 := (HB.out.cell (World.block_lt_of_cell? w _ hx124_0)).trans hx124_0
                                    replace hx124_1 := (HB.out.cell (World.block_lt_of_cell? w _ hx124_1)).trans hx124_1
                                    replace hx124_2 := (HB.out.cell (World.block_lt_of_cell? w _ hx124_2)).trans hx124_2
                                    have HR124_1 := Aside0.mk hi124_1
                                    have HC124_1 := Aside0.mk hl124_1
                                    clear hi124_1 hl124_1
                                    have HR124_2 := Aside0.mk hi124_2
                                    have HC124_2 := Aside0.mk hl124_2
                                    clear hi124_2 hl124_2
                                    replace p124 := eq_true p124
                                    replace q124 := eq_true q124
                                    have ea_ := Option.some.inj (hx121_1.symm.trans hx124_1)
                                    injection ea_ with ea_ en_ ec_
                                    subst ea_
                                    subst ec_
                                    clear en_
                                    have ea_ := Option.some.inj (hx121_2.symm.trans hx124_2)
                                    injection ea_ with ea_ en_ ec_
                                    subst ea_
                                    subst ec_
                                    clear en_
                                    have p125 : 0 ≤ (x5_4 : Int) := of_decide_eq_true (by first | (with_reducible assumption) | assumption)
                                    have q125 : x5_4 < (((rd_T50 l0 x3_1).f1).length : Int) := of_decide_eq_true (by first | (with_reducible assumption) | assumption)
                                    obtain ⟨ad125, e125, hx125_0⟩ := Kd.at_string HR124_1.out x5_4 p125 q125
                                    cases e125
                                    replace hx125_0 := (HB.out.cell (World.block_lt_of_cell? w _ hx125_0)).trans hx125_0
                                    replace p125 := eq_true p125
                                    replace q125 := eq_true q125
                                    go_wp2_with (first | (go_at_call 14; (with_reducible refine (spec_Valued.calls k4 (rdOf ByteArray.empty ((rd_T50 l0 x3_1).f1) x5_4) true _ A21.out).mono ?_); rintro e w' ⟨rfl, ⟨nd, rfl⟩⟩; (try first | exact ⟨rfl, _, World.drewN_drewN _ _ _⟩ | exact ⟨rfl, _, Eq.trans (World.drewN_drewN _ _ _) (congrArg (World.drewN _) (Nat.add_assoc _ _ _))⟩)))
                                    repeat (go_quiet (first | (go_at_call 14; (with_reducible refine (spec_Valued.calls k4 (rdOf ByteArray.empty ((rd_T50 l0 x3_1).f1) x5_4) true _ A21.out).mono ?_); rintro e w' ⟨rfl, ⟨nd, rfl⟩⟩; (try first | exact ⟨rfl, _, World.drewN_drewN _ _ _⟩ | exact ⟨rfl, _, Eq.trans (World.drewN_drewN _ _ _) (congrArg (World.drewN _) (Nat.add_assoc _ _ _))⟩))); try go_wp2_with (first | (go_at_call 14; (with_reducible refine (spec_Valued.calls k4 (rdOf ByteArray.empty ((rd_T50 l0 x3_1).f1) x5_4) true _ A21.out).mono ?_); rintro e w' ⟨rfl, ⟨nd, rfl⟩⟩; (try first | exact ⟨rfl, _, World.drewN_drewN _ _ _⟩ | exact ⟨rfl, _, Eq.trans (World.drewN_drewN _ _ _) (congrArg (World.drewN _) (Nat.add_assoc _ _ _))⟩))))
                                    go_roundg k4
                                    case measure => have := HK1.out; have := HJ2.out; have := HK3.out; have := HK4.out; omega
                                    case rel => exact ⟨(wrap64 (x5_4 + 1)), (by first | rfl | (simp; done) | (simp [*]; done)), H', ⟨by have := HK1.out; have := HJ2.out; have := HK3.out; have := HK4.out; omega⟩, ⟨by repeat (first | (with_reducible first | exact HB.out | apply below_alloc | apply pw_below_drewN | apply below_drew1) | exact HB.out)⟩⟩
                                  · replace c22 := Bool.eq_false_iff.mpr c22
                                    subst c22
                                    have H1 : (some false) = some r := by rw [if_neg (show ¬ (false = true) by decide)] at H; exact H
                                    clear H
                                    have H := H1
                                    clear H1
                                    obtain rfl := Option.some.inj H
                                    have p121 : 0 ≤ (x3_1 : Int) := of_decide_eq_true (by first | (with_reducible assumption) | assumption)
                                    have q121 : x3_1 < (l0.length : Int) := of_decide_eq_true (by first | (with_reducible assumption) | assumption)
                                    obtain ⟨ad121, A121_1, c121_1, A121_2, c121_2, e121, hx121_0, hx121_1, hx121_2, hl121_1, hi121_1, hl121_2, hi121_2⟩ := at_T50 HR0.out x3_1 p121 q121
                                    cases e121
                                    replace hx121_0 := (HB.out.cell (World.block_lt_of_cell? w _ hx121_0)).trans hx121_0
                                    replace hx121_1 := (HB.out.cell (World.block_lt_of_cell? w _ hx121_1)).trans hx121_1
                                    replace hx121_2 := (HB.out.cell (World.block_lt_of_cell? w _ hx121_2)).trans hx121_2
                                    have HR121_1 := Aside0.mk hi121_1
                                    have HC121_1 := Aside0.mk hl121_1
                                    clear hi121_1 hl121_1
                                    have HR121_2 := Aside0.mk hi121_2
                                    have HC121_2 := Aside0.mk hl121_2
                                    clear hi121_2 hl121_2
                                    replace p121 := eq_true p121
                                    replace q121 := eq_true q121
                                    have p122 : 0 ≤ (x3_1 : Int) := of_decide_eq_true (by first | (with_reducible assumption) | assumption)
                                    have q122 : x3_1 < (l0.length : Int) := of_decide_eq_true (by first | (with_reducible assumption) | assumption)
                                    obtain ⟨ad122, A122_1, c122_1, A122_2, c122_2, e122, hx122_0, hx122_1, hx122_2, hl122_1, hi122_1, hl122_2, hi122_2⟩ := at_T50 HR0.out x3_1 p122 q122
                                    obtain rfl : ad121 = ad122 := (by injection e122)
                                    replace hx122_0 := (HB.out.cell (World.block_lt_of_cell? w _ hx122_0)).trans hx122_0
                                    replace hx122_1 := (HB.out.cell (World.block_lt_of_cell? w _ hx122_1)).trans hx122_1
                                    replace hx122_2 := (HB.out.cell (World.block_lt_of_cell? w _ hx122_2)).trans hx122_2
                                    have HR122_1 := Aside0.mk hi122_1
                                    have HC122_1 := Aside0.mk hl122_1
                                    clear hi122_1 hl122_1
                                    have HR122_2 := Aside0.mk hi122_2
                                    have HC122_2 := Aside0.mk hl122_2
                                    clear hi122_2 hl122_2
                                    replace p122 := eq_true p122
                                    replace q122 := eq_true q122
                                    have ea_ := Option.some.inj (hx121_1.symm.trans hx122_1)
                                    injection ea_ with ea_ en_ ec_
                                    subst ea_
                                    subst ec_
                                    clear en_
                                    have ea_ := Option.some.inj (hx121_2.symm.trans hx122_2)
                                    injection ea_ with ea_ en_ ec_
                                    subst ea_
                                    subst ec_
                                    clear en_
                                    have p123 : 0 ≤ (x5_4 : Int) := of_decide_eq_true (by first | (with_reducible assumption) | assumption)
                                    have q123 : x5_4 < (((rd_T50 l0 x3_1).f1).length : Int) := of_decide_eq_true (by first | (with_reducible assumption) | assumption)
                                    obtain ⟨ad123, e123, hx123_0⟩ := Kd.at_string HR122_1.out x5_4 p123 q123
                                    cases e123
                                    replace hx123_0 := (HB.out.cell (World.block_lt_of_cell? w _ hx123_0)).trans hx123_0
                                    replace p123 := eq_true p123
                                    replace q123 := eq_true q123
                                    have p124 : 0 ≤ (x3_1 : Int) := of_decide_eq_true (by first | (with_reducible assumption) | assumption)
                                    have q124 : x3_1 < (l0.length : Int) := of_decide_eq_true (by first | (with_reducible assumption) | assumption)
                                    obtain ⟨ad124, A124_1, c124_1, A124_2, c124_2, e124, hx124_0, hx124_1, hx124_2, hl124_1, hi124_1, hl124_2, hi124_2⟩ := at_T50 HR0.out x3_1 p124 q124
                                    obtain rfl : ad121 = ad124 := (by injection e124)
                                    replace hx124_0 := (HB.out.cell (World.block_lt_of_cell? w _ hx124_0)).trans hx124_0
                                    replace hx124_1 := (HB.out.cell (World.block_lt_of_cell? w _ hx124_1)).trans hx124_1
                                    replace hx124_2 := (HB.out.cell (World.block_lt_of_cell? w _ hx124_2)).trans hx124_2
                                    have HR124_1 := Aside0.mk hi124_1
                                    have HC124_1 := Aside0.mk hl124_1
                                    clear hi124_1 hl124_1
                                    have HR124_2 := Aside0.mk hi124_2
                                    have HC124_2 := Aside0.mk hl124_2
                                    clear hi124_2 hl124_2
                                    replace p124 := eq_true p124
                                    replace q124 := eq_true q124
                                    have ea_ := Option.some.inj (hx121_1.symm.trans hx124_1)
                                    injection ea_ with ea_ en_ ec_
                                    subst ea_
                                    subst ec_
                                    clear en_
                                    have ea_ := Option.some.inj (hx121_2.symm.trans hx124_2)
                                    injection ea_ with ea_ en_ ec_
                                    subst ea_
                                    subst ec_
                                    clear en_
                                    have p125 : 0 ≤ (x5_4 : Int) := of_decide_eq_true (by first | (with_reducible assumption) | assumption)
                                    have q125 : x5_4 < (((rd_T50 l0 x3_1).f1).length : Int) := of_decide_eq_true (by first | (with_reducible assumption) | assumption)
                                    obtain ⟨ad125, e125, hx125_0⟩ := Kd.at_string HR124_1.out x5_4 p125 q125
                                    cases e125
                                    replace hx125_0 := (HB.out.cell (World.block_lt_of_cell? w _ hx125_0)).trans hx125_0
                                    replace p125 := eq_true p125
                                    replace q125 := eq_true q125
                                    go_wp2_with (first | (go_at_call 14; (with_reducible refine (spec_Valued.calls k4 (rdOf ByteArray.empty ((rd_T50 l0 x3_1).f1) x5_4) false _ A21.out).mono ?_); rintro e w' ⟨rfl, ⟨nd, rfl⟩⟩; (try first | exact ⟨rfl, _, World.drewN_drewN _ _ _⟩ | exact ⟨rfl, _, Eq.trans (World.drewN_drewN _ _ _) (congrArg (World.drewN _) (Nat.add_assoc _ _ _))⟩)))
                                    repeat (go_quiet (first | (go_at_call 14; (with_reducible refine (spec_Valued.calls k4 (rdOf ByteArray.empty ((rd_T50 l0 x3_1).f1) x5_4) false _ A21.out).mono ?_); rintro e w' ⟨rfl, ⟨nd, rfl⟩⟩; (try first | exact ⟨rfl, _, World.drewN_drewN _ _ _⟩ | exact ⟨rfl, _, Eq.trans (World.drewN_drewN _ _ _) (congrArg (World.drewN _) (Nat.add_assoc _ _ _))⟩))); try go_wp2_with (first | (go_at_call 14; (with_reducible refine (spec_Valued.calls k4 (rdOf ByteArray.empty ((rd_T50 l0 x3_1).f1) x5_4) false _ A21.out).mono ?_); rintro e w' ⟨rfl, ⟨nd, rfl⟩⟩; (try first | exact ⟨rfl, _, World.drewN_drewN _ _ _⟩ | exact ⟨rfl, _, Eq.trans (World.drewN_drewN _ _ _) (congrArg (World.drewN _) (Nat.add_assoc _ _ _))⟩))))
                                    go_ret
                                    exact ⟨by first | rfl | (simp [errW_none, errW_some] <;> rfl) | (simp [*, errW_none, errW_some] <;> rfl), by repeat (first | (with_reducible first | exact HB.out | apply below_alloc | apply pw_below_drewN | apply below_drew1) | exact HB.out)⟩
                              · rw [if_neg c19] at H
                                exact absurd H (by simp)
                            · rw [if_neg c18] at H
                              have c18b0 : decide (x5_4 < (((rd_T50 l0 x3_1).f1).length : Int)) = false := decide_eq_false c18
                              clear c18
                              have H' := Aside0.mk H
                              clear H
                              have p121 : 0 ≤ (x3_1 : Int) := of_decide_eq_true (by first | (with_reducible assumption) | assumption)
                              have q121 : x3_1 < (l0.length : Int) := of_decide_eq_true (by first | (with_reducible assumption) | assumption)
                              obtain ⟨ad121, A121_1, c121_1, A121_2, c121_2, e121, hx121_0, hx121_1, hx121_2, hl121_1, hi121_1, hl121_2, hi121_2⟩ := at_T50 HR0.out x3_1 p121 q121
                              cases e121
                              replace hx121_0 := (HB.out.cell (World.block_lt_of_cell? w _ hx121_0)).trans hx121_0
                              replace hx121_1 := (HB.out.cell (World.block_lt_of_cell? w _ hx121_1)).trans hx121_1
                              replace hx121_2 := (HB.out.cell (World.block_lt_of_cell? w _ hx121_2)).trans hx121_2
                              have HR121_1 := Aside0.mk hi121_1
                              have HC121_1 := Aside0.mk hl121_1
                              clear hi121_1 hl121_1
                              have HR121_2 := Aside0.mk hi121_2
                              have HC121_2 := Aside0.mk hl121_2
                              clear hi121_2 hl121_2
                              replace p121 := eq_true p121
                              replace q121 := eq_true q121
                              go_wp2
                              repeat (go_quiet (fail); try go_wp2)
                              go_loopg [6] k4 (fun kq v6 w' => ∃ (x6_5 : Int), v6 = .int .i64 x6_5 ∧ Aside0 (spec_Written.l3 kq l0 x3_1 x6_5 = some r) ∧ Aside0 (kq ≤ k4) ∧ Aside0 (Below w.heap.size w w'))
                              case atStart => exact ⟨(0), (by first | rfl | (simp; done) | (simp [*]; done)), H', ⟨Nat.le_refl _⟩, ⟨by repeat (first | (with_reducible first | exact HB.out | apply below_alloc | apply pw_below_drewN | apply below_drew1) | exact HB.out)⟩⟩
                              case round =>
                                clear H'
                                try clear c1
                                try clear p1
                                try clear q1
                                try clear hx1
                                try clear c2
                                try clear c2b0
                                try clear p2
                                try clear c4
                                try clear c4b0
                                try clear c5
                                try clear c5b0
                                try clear c5b1
                                try clear c6
                                try clear c6b0
                                try clear p6
                                try clear c8
                                try clear c9
                                try clear c10
                                try clear c10b0
                                try clear c11
                                try clear c11b0
                                try clear p11
                                try clear q11
                                try clear hx11
                                try clear c12
                                try clear c12b0
                                try clear p12
                                try clear q12
                                try clear hx12
                                try clear c13
                                try clear c13b0
                                try clear c14
                                try clear c14b0
                                try clear c15
                                try clear c15b0
                                try clear c15b1
                                try clear c16
                                try clear c16b0
                                try clear c17
                                try clear c17b0
                                try clear c18
                                try clear c18b0
                                try clear c19
                                try clear c19b0
                                try clear c20
                                try clear c20b0
                                try clear c20b1
                                try clear c22
                                try clear hx113_0
                                try clear hx113_1
                                try clear hx113_2
                                try clear hx114_0
                                try clear hx114_1
                                try clear hx114_2
                                try clear hx115_0
                                try clear hx115_1
                                try clear hx115_2
                                try clear hx116_0
                                try clear hx116_1
                                try clear hx116_2
                                try clear hx118_0
                                try clear hx118_1
                                try clear hx118_2
                                try clear hx119_0
                                try clear hx119_1
                                try clear hx119_2
                                try clear hx120_0
                                try clear hx120_1
                                try clear hx120_2
                                try clear hx121_0
                                try clear hx121_1
                                try clear hx121_2
                                try clear hx122_0
                                try clear hx122_1
                                try clear hx122_2
                                try clear hx123_0
                                try clear hx124_0
                                try clear hx124_1
                                try clear hx124_2
                                try clear hx125_0
                                try clear p1
                                try clear p11
                                try clear p113
                                try clear p114
                                try clear p115
                                try clear p116
                                try clear p118
                                try clear p119
                                try clear p12
                                try clear p120
                                try clear p121
                                try clear p122
                                try clear p123
                                try clear p124
                                try clear p125
                                try clear p2
                                try clear p6
                                try clear q1
                                try clear q11
                                try clear q113
                                try clear q114
                                try clear q115
                                try clear q116
                                try clear q118
                                try clear q119
                                try clear q12
                                try clear q120
                                try clear q121
                                try clear q122
                                try clear q123
                                try clear q124
                                try clear q125
                                obtain ⟨x6_5, rfl, HA, HK5, HB⟩ := hrel
                                cases gk with
                                | zero => exact absurd HA.out (by simp [spec_Written.l3])
                                | succ k5 =>
                                  have H := HA.out
                                  clear HA
                                  simp only [spec_Written.l3] at H
                                  by_cases c23 : 0 ≤ x3_1
                                  · rw [if_pos c23] at H
                                    have c23b0 : decide (0 ≤ x3_1) = true := decide_eq_true c23
                                    clear c23
                                    by_cases c24 : x3_1 < (l0.length : Int)
                                    · rw [if_pos c24] at H
                                      have c24b0 : decide (x3_1 < (l0.length : Int)) = true := decide_eq_true c24
                                      clear c24
                                      by_cases c25 : x6_5 < (((rd_T50 l0 x3_1).f2).length : Int)
                                      · rw [if_pos c25] at H
                                        have c25b0 : decide (x6_5 < (((rd_T50 l0 x3_1).f2).length : Int)) = true := decide_eq_true c25
                                        clear c25
                                        by_cases c26 : 0 ≤ x6_5
                                        · rw [if_pos c26] at H
                                          have c26b0 : decide (0 ≤ x6_5) = true := decide_eq_true c26
                                          clear c26
                                          have HC27 := Aside0.mk H
                                          clear H
                                          have p127 : 0 ≤ (x3_1 : Int) := of_decide_eq_true (by first | (with_reducible assumption) | assumption)
                                          have q127 : x3_1 < (l0.length : Int) := of_decide_eq_true (by first | (with_reducible assumption) | assumption)
                                          obtain ⟨ad127, A127_1, c127_1, A127_2, c127_2, e127, hx127_0, hx127_1, hx127_2, hl127_1, hi127_1, hl127_2, hi127_2⟩ := at_T50 HR0.out x3_1 p127 q127
                                          obtain rfl : ad121 = ad127 := (by injection e127)
                                          replace hx127_0 := (HB.out.cell (World.block_lt_of_cell? w _ hx127_0)).trans hx127_0
                                          replace hx127_1 := (HB.out.cell (World.block_lt_of_cell? w _ hx127_1)).trans hx127_1
                                          replace hx127_2 := (HB.out.cell (World.block_lt_of_cell? w _ hx127_2)).trans hx127_2
                                          have HR127_1 := Aside0.mk hi127_1
                                          have HC127_1 := Aside0.mk hl127_1
                                          clear hi127_1 hl127_1
                                          have HR127_2 := Aside0.mk hi127_2
                                          have HC127_2 := Aside0.mk hl127_2
                                          clear hi127_2 hl127_2
                                          replace p127 := eq_true p127
                                          replace q127 := eq_true q127
                                          have p128 : 0 ≤ (x3_1 : Int) := of_decide_eq_true (by first | (with_reducible assumption) | assumption)
                                          have q128 : x3_1 < (l0.length : Int) := of_decide_eq_true (by first | (with_reducible assumption) | assumption)
                                          obtain ⟨ad128, A128_1, c128_1, A128_2, c128_2, e128, hx128_0, hx128_1, hx128_2, hl128_1, hi128_1, hl128_2, hi128_2⟩ := at_T50 HR0.out x3_1 p128 q128
                                          obtain rfl : ad121 = ad128 := (by injection e128)
                                          replace hx128_0 := (HB.out.cell (World.block_lt_of_cell? w _ hx128_0)).trans hx128_0
                                          replace hx128_1 := (HB.out.cell (World.block_lt_of_cell? w _ hx128_1)).trans hx128_1
                                          replace hx128_2 := (HB.out.cell (World.block_lt_of_cell? w _ hx128_2)).trans hx128_2
                                          have HR128_1 := Aside0.mk hi128_1
                                          have HC128_1 := Aside0.mk hl128_1
                                          clear hi128_1 hl128_1
                                          have HR128_2 := Aside0.mk hi128_2
                                          have HC128_2 := Aside0.mk hl128_2
                                          clear hi128_2 hl128_2
                                          replace p128 := eq_true p128
                                          replace q128 := eq_true q128
                                          have ea_ := Option.some.inj (hx127_1.symm.trans hx128_1)
                                          injection ea_ with ea_ en_ ec_
                                          subst ea_
                                          subst ec_
                                          clear en_
                                          have ea_ := Option.some.inj (hx127_2.symm.trans hx128_2)
                                          injection ea_ with ea_ en_ ec_
                                          subst ea_
                                          subst ec_
                                          clear en_
                                          have p129 : 0 ≤ (x6_5 : Int) := of_decide_eq_true (by first | (with_reducible assumption) | assumption)
                                          have q129 : x6_5 < (((rd_T50 l0 x3_1).f2).length : Int) := of_decide_eq_true (by first | (with_reducible assumption) | assumption)
                                          obtain ⟨ad129, A129_1, c129_1, e129, hx129_0, hx129_1, hl129_1, hi129_1⟩ := at_T53 HR128_2.out x6_5 p129 q129
                                          cases e129
                                          replace hx129_0 := (HB.out.cell (World.block_lt_of_cell? w _ hx129_0)).trans hx129_0
                                          replace hx129_1 := (HB.out.cell (World.block_lt_of_cell? w _ hx129_1)).trans hx129_1
                                          have HR129_1 := Aside0.mk hi129_1
                                          have HC129_1 := Aside0.mk hl129_1
                                          clear hi129_1 hl129_1
                                          replace p129 := eq_true p129
                                          replace q129 := eq_true q129
                                          go_upto_region 20 with (first | ((with_reducible refine gate_dst (N := 7) rfl ?_); (try (refine gate_guard (by rfl) ?_; dsimp only)); refine box_event ?hg (N := 7) ?hd (cs := #[.string (⟨#[]⟩ : ByteArray), .slice none 0 0]) (t := 53) ?hr ?_; (case hd => rfl); (case hg => rfl); (case hr => first | (go_simp; done) | (go_simp; rfl)); intro gb130 hg w28 hbox hb; have n0_ := Aside0.mk (below_step (by repeat (first | (with_reducible first | exact HB.out | apply below_alloc | apply pw_below_drewN | apply below_drew1) | exact HB.out)) hb); have n1_ := Aside0.mk (hbox); have n2_ := Aside0.mk ((by rw [hg]; exact (below_size (by repeat (first | (with_reducible first | exact HB.out | apply below_alloc | apply pw_below_drewN | apply below_drew1) | exact HB.out))) : w.heap.size ≤ gb130)); have n3_ := Aside0.mk ((by rw [hg]; exact (below_size (by repeat (first | (with_reducible first | exact HB.out | apply below_alloc | apply pw_below_drewN | apply below_drew1) | exact HB.out))) : w.heap.size ≤ gb130)); clear HB; have HB := n0_; have BK130 := n1_; have GW130 := n2_; have GE130 := n3_; clear n0_ n1_ n2_ n3_; clear hb hbox hg; have hcz29_0 : w28.cell? ⟨gb130, 0, none⟩ = some (.string (⟨#[]⟩ : ByteArray)) := (blk_cell BK130.out 0).trans rfl; have hcz29_1 : w28.cell? ⟨gb130, 1, none⟩ = some (.slice none 0 0) := (blk_cell BK130.out 1).trans rfl; have hfz29_0 := blk_frozen BK130.out 0; have hfz29_1 := blk_frozen BK130.out 1))
                                          repeat (go_quiet (first | ((with_reducible refine gate_dst (N := 7) rfl ?_); (try (refine gate_guard (by rfl) ?_; dsimp only)); refine box_event ?hg (N := 7) ?hd (cs := #[.string (⟨#[]⟩ : ByteArray), .slice none 0 0]) (t := 53) ?hr ?_; (case hd => rfl); (case hg => rfl); (case hr => first | (go_simp; done) | (go_simp; rfl)); intro gb130 hg w28 hbox hb; have n0_ := Aside0.mk (below_step (by repeat (first | (with_reducible first | exact HB.out | apply below_alloc | apply pw_below_drewN | apply below_drew1) | exact HB.out)) hb); have n1_ := Aside0.mk (hbox); have n2_ := Aside0.mk ((by rw [hg]; exact (below_size (by repeat (first | (with_reducible first | exact HB.out | apply below_alloc | apply pw_below_drewN | apply below_drew1) | exact HB.out))) : w.heap.size ≤ gb130)); have n3_ := Aside0.mk ((by rw [hg]; exact (below_size (by repeat (first | (with_reducible first | exact HB.out | apply below_alloc | apply pw_below_drewN | apply below_drew1) | exact HB.out))) : w.heap.size ≤ gb130)); clear HB; have HB := n0_; have BK130 := n1_; have GW130 := n2_; have GE130 := n3_; clear n0_ n1_ n2_ n3_; clear hb hbox hg; have hcz29_0 : w28.cell? ⟨gb130, 0, none⟩ = some (.string (⟨#[]⟩ : ByteArray)) := (blk_cell BK130.out 0).trans rfl; have hcz29_1 : w28.cell? ⟨gb130, 1, none⟩ = some (.slice none 0 0) := (blk_cell BK130.out 1).trans rfl; have hfz29_0 := blk_frozen BK130.out 0; have hfz29_1 := blk_frozen BK130.out 1)); go_upto_region 20 with (first | ((with_reducible refine gate_dst (N := 7) rfl ?_); (try (refine gate_guard (by rfl) ?_; dsimp only)); refine box_event ?hg (N := 7) ?hd (cs := #[.string (⟨#[]⟩ : ByteArray), .slice none 0 0]) (t := 53) ?hr ?_; (case hd => rfl); (case hg => rfl); (case hr => first | (go_simp; done) | (go_simp; rfl)); intro gb130 hg w28 hbox hb; have n0_ := Aside0.mk (below_step (by repeat (first | (with_reducible first | exact HB.out | apply below_alloc | apply pw_below_drewN | apply below_drew1) | exact HB.out)) hb); have n1_ := Aside0.mk (hbox); have n2_ := Aside0.mk ((by rw [hg]; exact (below_size (by repeat (first | (with_reducible first | exact HB.out | apply below_alloc | apply pw_below_drewN | apply below_drew1) | exact HB.out))) : w.heap.size ≤ gb130)); have n3_ := Aside0.mk ((by rw [hg]; exact (below_size (by repeat (first | (with_reducible first | exact HB.out | apply below_alloc | apply pw_below_drewN | apply below_drew1) | exact HB.out))) : w.heap.size ≤ gb130)); clear HB; have HB := n0_; have BK130 := n1_; have GW130 := n2_; have GE130 := n3_; clear n0_ n1_ n2_ n3_; clear hb hbox hg; have hcz29_0 : w28.cell? ⟨gb130, 0, none⟩ = some (.string (⟨#[]⟩ : ByteArray)) := (blk_cell BK130.out 0).trans rfl; have hcz29_1 : w28.cell? ⟨gb130, 1, none⟩ = some (.slice none 0 0) := (blk_cell BK130.out 1).trans rfl; have hfz29_0 := blk_frozen BK130.out 0; have hfz29_1 := blk_frozen BK130.out 1)))
                                          (try simp only [Act.put, List.setIfInBounds_toArray, List.set_cons_zero, List.set_cons_succ])
                                          go_cut [125] (fun v125 wc => ∃ (kq : Nat) (x125_26 : Bool), v125 = .bool x125_26 ∧ Aside0 (spec_Written.j5 kq l0 x3_1 x6_5 x125_26 ((rd_T53 ((rd_T50 l0 x3_1).f2) x6_5).f0) ((rd_T53 ((rd_T50 l0 x3_1).f2) x6_5).f1) = some r) ∧ Aside0 (kq ≤ k5) ∧ Aside0 (wc.heap[gb130]? = some (.cells #[.string ((rd_T53 ((rd_T50 l0 x3_1).f2) x6_5).f0), (.slice A129_1 ((rd_T53 ((rd_T50 l0 x3_1).f2) x6_5).f1).length c129_1)] 53 (0, 0))) ∧ Aside0 (Below w.heap.size w wc))
                                          case first =>
                                            have H := HC27.out
                                            clear HC27
                                            replace H := Option.bind_eq_some_iff.mp H
                                            obtain ⟨t131, A300, H⟩ := H
                                            replace H : (if t131 = true then (spec_Written.j5 k5 l0 x3_1 x6_5 ((((rd_T53 ((rd_T50 l0 x3_1).f2) x6_5).f1).length : Int) == 0) ((rd_T53 ((rd_T50 l0 x3_1).f2) x6_5).f0) ((rd_T53 ((rd_T50 l0 x3_1).f2) x6_5).f1)) else (spec_Written.j5 k5 l0 x3_1 x6_5 true ((rd_T53 ((rd_T50 l0 x3_1).f2) x6_5).f0) ((rd_T53 ((rd_T50 l0 x3_1).f2) x6_5).f1))) = some r := H
                                            have A30 := Aside0.mk A300
                                            clear A300
                                            by_cases c31 : t131 = true
                                            · subst c31
                                              have H1 : (spec_Written.j5 k5 l0 x3_1 x6_5 ((((rd_T53 ((rd_T50 l0 x3_1).f2) x6_5).f1).length : Int) == 0) ((rd_T53 ((rd_T50 l0 x3_1).f2) x6_5).f0) ((rd_T53 ((rd_T50 l0 x3_1).f2) x6_5).f1)) = some r := by rw [if_pos rfl] at H; exact H
                                              clear H
                                              have H := H1
                                              clear H1
                                              have H' := Aside0.mk H
                                              clear H
                                              have hcz32_0 : w28.cell? ⟨gb130, 0, none⟩ = some (.string (⟨#[]⟩ : ByteArray)) := (blk_cell BK130.out 0).trans rfl
                                              have hcz32_1 : w28.cell? ⟨gb130, 1, none⟩ = some (.slice none 0 0) := (blk_cell BK130.out 1).trans rfl
                                              have hfz32_0 := blk_frozen BK130.out 0
                                              have hfz32_1 := blk_frozen BK130.out 1
                                              go_wp2_with (first | (go_at_call 31; (with_reducible refine (spec_small.calls k5 ((rd_T53 ((rd_T50 l0 x3_1).f2) x6_5).f0) true _ A30.out).mono ?_); rintro e w' ⟨rfl, ⟨nd, rfl⟩⟩; (try first | exact ⟨rfl, _, World.drewN_drewN _ _ _⟩ | exact ⟨rfl, _, Eq.trans (World.drewN_drewN _ _ _) (congrArg (World.drewN _) (Nat.add_assoc _ _ _))⟩)))
                                              repeat (go_quiet (first | (go_at_call 31; (with_reducible refine (spec_small.calls k5 ((rd_T53 ((rd_T50 l0 x3_1).f2) x6_5).f0) true _ A30.out).mono ?_); rintro e w' ⟨rfl, ⟨nd, rfl⟩⟩; (try first | exact ⟨rfl, _, World.drewN_drewN _ _ _⟩ | exact ⟨rfl, _, Eq.trans (World.drewN_drewN _ _ _) (congrArg (World.drewN _) (Nat.add_assoc _ _ _))⟩))); try go_wp2_with (first | (go_at_call 31; (with_reducible refine (spec_small.calls k5 ((rd_T53 ((rd_T50 l0 x3_1).f2) x6_5).f0) true _ A30.out).mono ?_); rintro e w' ⟨rfl, ⟨nd, rfl⟩⟩; (try first | exact ⟨rfl, _, World.drewN_drewN _ _ _⟩ | exact ⟨rfl, _, Eq.trans (World.drewN_drewN _ _ _) (congrArg (World.drewN _) (Nat.add_assoc _ _ _))⟩))))
                                              go_meet
                                              case rel => exact ⟨_, (((((rd_T53 ((rd_T50 l0 x3_1).f2) x6_5).f1).length : Int) == 0)), (by first | rfl | (simp; done) | (simp [*]; done)), H', ⟨by have := HK1.out; have := HJ2.out; have := HK3.out; have := HK4.out; have := HK5.out; first | omega | exact Nat.le_refl _⟩, ⟨by (with_reducible repeat (first | refine blk_drewN ?_ _ | refine blk_drew ?_ | refine blk_alloc ?_ _)); refine blk_put (cs := #[.string ((rd_T53 ((rd_T50 l0 x3_1).f2) x6_5).f0), .slice none 0 0]) ?_ 1 _ rfl; (with_reducible repeat (first | refine blk_drewN ?_ _ | refine blk_drew ?_ | refine blk_alloc ?_ _)); refine blk_put (cs := #[.string (⟨#[]⟩ : ByteArray), .slice none 0 0]) ?_ 0 _ rfl; (with_reducible repeat (first | refine blk_drewN ?_ _ | refine blk_drew ?_ | refine blk_alloc ?_ _)); exact BK130.out⟩, ⟨by repeat (first | (with_reducible first | exact HB.out | apply below_alloc | apply pw_below_drewN | apply below_drew1 | refine below_set ?_ GE130.out) | exact HB.out)⟩⟩
                                            · replace c31 := Bool.eq_false_iff.mpr c31
                                              subst c31
                                              have H1 : (spec_Written.j5 k5 l0 x3_1 x6_5 true ((rd_T53 ((rd_T50 l0 x3_1).f2) x6_5).f0) ((rd_T53 ((rd_T50 l0 x3_1).f2) x6_5).f1)) = some r := by rw [if_neg (show ¬ (false = true) by decide)] at H; exact H
                                              clear H
                                              have H := H1
                                              clear H1
                                              have H' := Aside0.mk H
                                              clear H
                                              have hcz33_0 : w28.cell? ⟨gb130, 0, none⟩ = some (.string (⟨#[]⟩ : ByteArray)) := (blk_cell BK130.out 0).trans rfl
                                              have hcz33_1 : w28.cell? ⟨gb130, 1, none⟩ = some (.slice none 0 0) := (blk_cell BK130.out 1).trans rfl
                                              have hfz33_0 := blk_frozen BK130.out 0
                                              have hfz33_1 := blk_frozen BK130.out 1
                                              go_wp2_with (first | (go_at_call 31; (with_reducible refine (spec_small.calls k5 ((rd_T53 ((rd_T50 l0 x3_1).f2) x6_5).f0) false _ A30.out).mono ?_); rintro e w' ⟨rfl, ⟨nd, rfl⟩⟩; (try first | exact ⟨rfl, _, World.drewN_drewN _ _ _⟩ | exact ⟨rfl, _, Eq.trans (World.drewN_drewN _ _ _) (congrArg (World.drewN _) (Nat.add_assoc _ _ _))⟩)))
                                              repeat (go_quiet (first | (go_at_call 31; (with_reducible refine (spec_small.calls k5 ((rd_T53 ((rd_T50 l0 x3_1).f2) x6_5).f0) false _ A30.out).mono ?_); rintro e w' ⟨rfl, ⟨nd, rfl⟩⟩; (try first | exact ⟨rfl, _, World.drewN_drewN _ _ _⟩ | exact ⟨rfl, _, Eq.trans (World.drewN_drewN _ _ _) (congrArg (World.drewN _) (Nat.add_assoc _ _ _))⟩))); try go_wp2_with (first | (go_at_call 31; (with_reducible refine (spec_small.calls k5 ((rd_T53 ((rd_T50 l0 x3_1).f2) x6_5).f0) false _ A30.out).mono ?_); rintro e w' ⟨rfl, ⟨nd, rfl⟩⟩; (try first | exact ⟨rfl, _, World.drewN_drewN _ _ _⟩ | exact ⟨rfl, _, Eq.trans (World.drewN_drewN _ _ _) (congrArg (World.drewN _) (Nat.add_assoc _ _ _))⟩))))
                                              go_meet
                                              case rel => exact ⟨_, (true), (by first | rfl | (simp; done) | (simp [*]; done)), H', ⟨by have := HK1.out; have := HJ2.out; have := HK3.out; have := HK4.out; have := HK5.out; first | omega | exact Nat.le_refl _⟩, ⟨by (with_reducible repeat (first | refine blk_drewN ?_ _ | refine blk_drew ?_ | refine blk_alloc ?_ _)); refine blk_put (cs := #[.string ((rd_T53 ((rd_T50 l0 x3_1).f2) x6_5).f0), .slice none 0 0]) ?_ 1 _ rfl; (with_reducible repeat (first | refine blk_drewN ?_ _ | refine blk_drew ?_ | refine blk_alloc ?_ _)); refine blk_put (cs := #[.string (⟨#[]⟩ : ByteArray), .slice none 0 0]) ?_ 0 _ rfl; (with_reducible repeat (first | refine blk_drewN ?_ _ | refine blk_drew ?_ | refine blk_alloc ?_ _)); exact BK130.out⟩, ⟨by repeat (first | (with_reducible first | exact HB.out | apply below_alloc | apply pw_below_drewN | apply below_drew1 | refine below_set ?_ GE130.out) | exact HB.out)⟩⟩
                                          case rest =>
                                            clear HC27
                                            try clear c1
                                            try clear p1
                                            try clear q1
                                            try clear hx1
                                            try clear c2
                                            try clear c2b0
                                            try clear p2
                                            try clear c3
                                            try clear c4
                                            try clear c4b0
                                            try clear c5
                                            try clear c5b0
                                            try clear c5b1
                                            try clear c6
                                            try clear c6b0
                                            try clear p6
                                            try clear c8
                                            try clear c9
                                            try clear c10
                                            try clear c10b0
                                            try clear c11
                                            try clear c11b0
                                            try clear p11
                                            try clear q11
                                            try clear hx11
                                            try clear c12
                                            try clear c12b0
                                            try clear p12
                                            try clear q12
                                            try clear hx12
                                            try clear c13
                                            try clear c13b0
                                            try clear c14
                                            try clear c14b0
                                            try clear c15
                                            try clear c15b0
                                            try clear c15b1
                                            try clear c16
                                            try clear c16b0
                                            try clear c17
                                            try clear c17b0
                                            try clear c18
                                            try clear c18b0
                                            try clear c19
                                            try clear c19b0
                                            try clear c20
                                            try clear c20b0
                                            try clear c20b1
                                            try clear c22
                                            try clear c23
                                            try clear c23b0
                                            try clear c24
                                            try clear c24b0
                                            try clear c25
                                            try clear c25b0
                                            try clear c26
                                            try clear c26b0
                                            try clear c31
                                            try clear hcz29_0
                                            try clear hcz29_1
                                            try clear hcz32_0
                                            try clear hcz32_1
                                            try clear hcz33_0
                                            try clear hcz33_1
                                            try clear hfz29_0
                                            try clear hfz29_1
                                            try clear hfz32_0
                                            try clear hfz32_1
                                            try clear hfz33_0
                                            try clear hfz33_1
                                            try clear hx113_0
                                            try clear hx113_1
                                            try clear hx113_2
                                            try clear hx114_0
                                            try clear hx114_1
                                            try clear hx114_2
                                            try clear hx115_0
                                            try clear hx115_1
                                            try clear hx115_2
                                            try clear hx116_0
                                            try clear hx116_1
                                            try clear hx116_2
                                            try clear hx118_0
                                            try clear hx118_1
                                            try clear hx118_2
                                            try clear hx119_0
                                            try clear hx119_1
                                            try clear hx119_2
                                            try clear hx120_0
                                            try clear hx120_1
                                            try clear hx120_2
                                            try clear hx121_0
                                            try clear hx121_1
                                            try clear hx121_2
                                            try clear hx122_0
                                            try clear hx122_1
                                            try clear hx122_2
                                            try clear hx123_0
                                            try clear hx124_0
                                            try clear hx124_1
                                            try clear hx124_2
                                            try clear hx125_0
                                            try clear hx127_0
                                            try clear hx127_1
                                            try clear hx127_2
                                            try clear hx128_0
                                            try clear hx128_1
                                            try clear hx128_2
                                            try clear hx129_0
                                            try clear hx129_1
                                            try clear p1
                                            try clear p11
                                            try clear p113
                                            try clear p114
                                            try clear p115
                                            try clear p116
                                            try clear p118
                                            try clear p119
                                            try clear p12
                                            try clear p120
                                            try clear p121
                                            try clear p122
                                            try clear p123
                                            try clear p124
                                            try clear p125
                                            try clear p127
                                            try clear p128
                                            try clear p129
                                            try clear p2
                                            try clear p6
                                            try clear q1
                                            try clear q11
                                            try clear q113
                                            try clear q114
                                            try clear q115
                                            try clear q116
                                            try clear q118
                                            try clear q119
                                            try clear q12
                                            try clear q120
                                            try clear q121
                                            try clear q122
                                            try clear q123
                                            try clear q124
                                            try clear q125
                                            try clear q127
                                            try clear q128
                                            try clear q129
                                            obtain ⟨kq, x125_26, rfl, HA, HJ26, BK130, HB⟩ := hcut
                                            cases kq with
                                            | zero => exact absurd HA.out (by simp [spec_Written.j5])
                                            | succ kj26 =>
                                              have H := HA.out
                                              clear HA
                                              simp only [spec_Written.j5] at H
                                              by_cases c34 : x125_26 = true
                                              · subst c34
                                                have H1 : (some false) = some r := by rw [if_pos rfl] at H; exact H
                                                clear H
                                                have H := H1
                                                clear H1
                                                obtain rfl := Option.some.inj H
                                                go_wp2
                                                repeat (go_quiet (fail); try go_wp2)
                                                go_ret
                                                exact ⟨by first | rfl | (simp [errW_none, errW_some] <;> rfl) | (simp [*, errW_none, errW_some] <;> rfl), by repeat (first | (with_reducible first | exact HB.out | apply below_alloc | apply pw_below_drewN | apply below_drew1 | refine below_set ?_ GE130.out) | exact HB.out)⟩
                                              · replace c34 := Bool.eq_false_iff.mpr c34
                                                subst c34
                                                have H1 : (spec_Written.l4 kj26 l0 x3_1 x6_5 0 ((rd_T53 ((rd_T50 l0 x3_1).f2) x6_5).f0) ((rd_T53 ((rd_T50 l0 x3_1).f2) x6_5).f1)) = some r := by rw [if_neg (show ¬ (false = true) by decide)] at H; exact H
                                                clear H
                                                have H := H1
                                                clear H1
                                                have H' := Aside0.mk H
                                                clear H
                                                go_wp2
                                                repeat (go_quiet (fail); try go_wp2)
                                                go_loopg [8] kj26 (fun kq v8 w' => ∃ (x8_7 : Int), v8 = .int .i64 x8_7 ∧ Aside0 (spec_Written.l4 kq l0 x3_1 x6_5 x8_7 ((rd_T53 ((rd_T50 l0 x3_1).f2) x6_5).f0) ((rd_T53 ((rd_T50 l0 x3_1).f2) x6_5).f1) = some r) ∧ Aside0 (kq ≤ kj26) ∧ Aside0 (w'.heap[gb130]? = some (.cells #[.string ((rd_T53 ((rd_T50 l0 x3_1).f2) x6_5).f0), (.slice A129_1 ((rd_T53 ((rd_T50 l0 x3_1).f2) x6_5).f1).length c129_1)] 53 (0, 0))) ∧ Aside0 (Below w.heap.size w w'))
                                                case atStart => exact ⟨(0), (by first | rfl | (simp; done) | (simp [*]; done)), H', ⟨Nat.le_refl _⟩, ⟨by (with_reducible repeat (first | refine blk_drewN ?_ _ | refine blk_drew ?_ | refine blk_alloc ?_ _)); exact BK130.out⟩, ⟨by repeat (first | (with_reducible first | exact HB.out | apply below_alloc | apply pw_below_drewN | apply below_drew1 | refine below_set ?_ GE130.out) | exact HB.out)⟩⟩
                                                case round =>
                                                  clear H'
                                                  try clear c1
                                                  try clear p1
                                                  try clear q1
                                                  try clear hx1
                                                  try clear c2
                                                  try clear c2b0
                                                  try clear p2
                                                  try clear c3
                                                  try clear c4
                                                  try clear c4b0
                                                  try clear c5
                                                  try clear c5b0
                                                  try clear c5b1
                                                  try clear c6
                                                  try clear c6b0
                                                  try clear p6
                                                  try clear c8
                                                  try clear c9
                                                  try clear c10
                                                  try clear c10b0
                                                  try clear c11
                                                  try clear c11b0
                                                  try clear p11
                                                  try clear q11
                                                  try clear hx11
                                                  try clear c12
                                                  try clear c12b0
                                                  try clear p12
                                                  try clear q12
                                                  try clear hx12
                                                  try clear c13
                                                  try clear c13b0
                                                  try clear c14
                                                  try clear c14b0
                                                  try clear c15
                                                  try clear c15b0
                                                  try clear c15b1
                                                  try clear c16
                                                  try clear c16b0
                                                  try clear c17
                                                  try clear c17b0
                                                  try clear c18
                                                  try clear c18b0
                                                  try clear c19
                                                  try clear c19b0
                                                  try clear c20
                                                  try clear c20b0
                                                  try clear c20b1
                                                  try clear c22
                                                  try clear c23
                                                  try clear c23b0
                                                  try clear c24
                                                  try clear c24b0
                                                  try clear c25
                                                  try clear c25b0
                                                  try clear c26
                                                  try clear c26b0
                                                  try clear c31
                                                  try clear c34
                                                  try clear hcz29_0
                                                  try clear hcz29_1
                                                  try clear hcz32_0
                                                  try clear hcz32_1
                                                  try clear hcz33_0
                                                  try clear hcz33_1
                                                  try clear hfz29_0
                                                  try clear hfz29_1
                                                  try clear hfz32_0
                                                  try clear hfz32_1
                                                  try clear hfz33_0
                                                  try clear hfz33_1
                                                  try clear hx113_0
                                                  try clear hx113_1
                                                  try clear hx113_2
                                                  try clear hx114_0
                                                  try clear hx114_1
                                                  try clear hx114_2
                                                  try clear hx115_0
                                                  try clear hx115_1
                                                  try clear hx115_2
                                                  try clear hx116_0
                                                  try clear hx116_1
                                                  try clear hx116_2
                                                  try clear hx118_0
                                                  try clear hx118_1
                                                  try clear hx118_2
                                                  try clear hx119_0
                                                  try clear hx119_1
                                                  try clear hx119_2
                                                  try clear hx120_0
                                                  try clear hx120_1
                                                  try clear hx120_2
                                                  try clear hx121_0
                                                  try clear hx121_1
                                                  try clear hx121_2
                                                  try clear hx122_0
                                                  try clear hx122_1
                                                  try clear hx122_2
                                                  try clear hx123_0
                                                  try clear hx124_0
                                                  try clear hx124_1
                                                  try clear hx124_2
                                                  try clear hx125_0
                                                  try clear hx127_0
                                                  try clear hx127_1
                                                  try clear hx127_2
                                                  try clear hx128_0
                                                  try clear hx128_1
                                                  try clear hx128_2
                                                  try clear hx129_0
                                                  try clear hx129_1
                                                  try clear p1
                                                  try clear p11
                                                  try clear p113
                                                  try clear p114
                                                  try clear p115
                                                  try clear p116
                                                  try clear p118
                                                  try clear p119
                                                  try clear p12
                                                  try clear p120
                                                  try clear p121
                                                  try clear p122
                                                  try clear p123
                                                  try clear p124
                                                  try clear p125
                                                  try clear p127
                                                  try clear p128
                                                  try clear p129
                                                  try clear p2
                                                  try clear p6
                                                  try clear q1
                                                  try clear q11
                                                  try clear q113
                                                  try clear q114
                                                  try clear q115
                                                  try clear q116
                                                  try clear q118
                                                  try clear q119
                                                  try clear q12
                                                  try clear q120
                                                  try clear q121
                                                  try clear q122
                                                  try clear q123
                                                  try clear q124
                                                  try clear q125
                                                  try clear q127
                                                  try clear q128
                                                  try clear q129
                                                  obtain ⟨x8_7, rfl, HA, HK7, BK130, HB⟩ := hrel
                                                  cases gk with
                                                  | zero => exact absurd HA.out (by simp [spec_Written.l4])
                                                  | succ k7 =>
                                                    have H := HA.out
                                                    clear HA
                                                    simp only [spec_Written.l4] at H
                                                    by_cases c35 : x8_7 < (((rd_T53 ((rd_T50 l0 x3_1).f2) x6_5).f1).length : Int)
                                                    · rw [if_pos c35] at H
                                                      have c35b0 : decide (x8_7 < (((rd_T53 ((rd_T50 l0 x3_1).f2) x6_5).f1).length : Int)) = true := decide_eq_true c35
                                                      clear c35
                                                      by_cases c36 : 0 ≤ x8_7
                                                      · rw [if_pos c36] at H
                                                        have c36b0 : decide (0 ≤ x8_7) = true := decide_eq_true c36
                                                        clear c36
                                                        replace H := Option.bind_eq_some_iff.mp H
                                                        obtain ⟨t133, A370, H⟩ := H
                                                        replace H : (if t133 = true then (if x8_7 > 0 then (if 0 < ((rdOf ByteArray.empty ((rd_T53 ((rd_T50 l0 x3_1).f2) x6_5).f1) x8_7).size : Int) then (if (bt (rdOf ByteArray.empty ((rd_T53 ((rd_T50 l0 x3_1).f2) x6_5).f1) x8_7) 0) = 91 then (some false) else (if (bt (rdOf ByteArray.empty ((rd_T53 ((rd_T50 l0 x3_1).f2) x6_5).f1) x8_7) 0) = 61 then (some false) else (spec_Written.l4 k7 l0 x3_1 x6_5 (wrap64 (x8_7 + 1)) ((rd_T53 ((rd_T50 l0 x3_1).f2) x6_5).f0) ((rd_T53 ((rd_T50 l0 x3_1).f2) x6_5).f1)))) else (none)) else (spec_Written.l4 k7 l0 x3_1 x6_5 (wrap64 (x8_7 + 1)) ((rd_T53 ((rd_T50 l0 x3_1).f2) x6_5).f0) ((rd_T53 ((rd_T50 l0 x3_1).f2) x6_5).f1))) else (some false)) = some r := H
                                                        have A37 := Aside0.mk A370
                                                        clear A370
                                                        by_cases c38 : t133 = true
                                                        · subst c38
                                                          have H1 : (if x8_7 > 0 then (if 0 < ((rdOf ByteArray.empty ((rd_T53 ((rd_T50 l0 x3_1).f2) x6_5).f1) x8_7).size : Int) then (if (bt (rdOf ByteArray.empty ((rd_T53 ((rd_T50 l0 x3_1).f2) x6_5).f1) x8_7) 0) = 91 then (some false) else (if (bt (rdOf ByteArray.empty ((rd_T53 ((rd_T50 l0 x3_1).f2) x6_5).f1) x8_7) 0) = 61 then (some false) else (spec_Written.l4 k7 l0 x3_1 x6_5 (wrap64 (x8_7 + 1)) ((rd_T53 ((rd_T50 l0 x3_1).f2) x6_5).f0) ((rd_T53 ((rd_T50 l0 x3_1).f2) x6_5).f1)))) else (none)) else (spec_Written.l4 k7 l0 x3_1 x6_5 (wrap64 (x8_7 + 1)) ((rd_T53 ((rd_T50 l0 x3_1).f2) x6_5).f0) ((rd_T53 ((rd_T50 l0 x3_1).f2) x6_5).f1))) = some r := by rw [if_pos rfl] at H; exact H
                                                          clear H
                                                          have H := H1
                                                          clear H1
                                                          by_cases c39 : x8_7 > 0
                                                          · rw [if_pos c39] at H
                                                            have c39b0 : decide (0 < x8_7) = true := decide_eq_true c39
                                                            clear c39
                                                            by_cases c40 : 0 < ((rdOf ByteArray.empty ((rd_T53 ((rd_T50 l0 x3_1).f2) x6_5).f1) x8_7).size : Int)
                                                            · rw [if_pos c40] at H
                                                              have c40b0 : decide (0 < ((rdOf ByteArray.empty ((rd_T53 ((rd_T50 l0 x3_1).f2) x6_5).f1) x8_7).size : Int)) = true := decide_eq_true c40
                                                              have c40b1 : decide (0 < (rdOf ByteArray.empty ((rd_T53 ((rd_T50 l0 x3_1).f2) x6_5).f1) x8_7).size) = true := decide_eq_true (by omega)
                                                              clear c40
                                                              by_cases c42 : (bt (rdOf ByteArray.empty ((rd_T53 ((rd_T50 l0 x3_1).f2) x6_5).f1) x8_7) 0) = 91
                                                              · rw [if_pos c42] at H
                                                                have c42b0 : ((bt (rdOf ByteArray.empty ((rd_T53 ((rd_T50 l0 x3_1).f2) x6_5).f1) x8_7) 0) == 91) = true := beq_iff_eq.mpr c42
                                                                have c42b1 : ((bt (rdOf ByteArray.empty ((rd_T53 ((rd_T50 l0 x3_1).f2) x6_5).f1) x8_7) 0) != 91) = false := bne_eq_false_iff_eq.mpr c42
                                                                clear c42
                                                                obtain rfl := Option.some.inj H
                                                                have hcz43_0 : wr.cell? ⟨gb130, 0, none⟩ = some (.string ((rd_T53 ((rd_T50 l0 x3_1).f2) x6_5).f0)) := (blk_cell BK130.out 0).trans rfl
                                                                have hcz43_1 : wr.cell? ⟨gb130, 1, none⟩ = some (.slice A129_1 ((rd_T53 ((rd_T50 l0 x3_1).f2) x6_5).f1).length c129_1) := (blk_cell BK130.out 1).trans rfl
                                                                have hfz43_0 := blk_frozen BK130.out 0
                                                                have hfz43_1 := blk_frozen BK130.out 1
                                                                have p132 : 0 ≤ (x8_7 : Int) := of_decide_eq_true (by first | (with_reducible assumption) | assumption)
                                                                have q132 : x8_7 < (((rd_T53 ((rd_T50 l0 x3_1).f2) x6_5).f1).length : Int) := of_decide_eq_true (by first | (with_reducible assumption) | assumption)
                                                                obtain ⟨ad132, e132, hx132_0⟩ := Kd.at_string HR129_1.out x8_7 p132 q132
                                                                cases e132
                                                                replace hx132_0 := (HB.out.cell (World.block_lt_of_cell? w _ hx132_0)).trans hx132_0
                                                                replace p132 := eq_true p132
                                                                replace q132 := eq_true q132
                                                                go_wp2_with (first | (go_at_call 14; (with_reducible refine (spec_Valued.calls k7 (rdOf ByteArray.empty ((rd_T53 ((rd_T50 l0 x3_1).f2) x6_5).f1) x8_7) true _ A37.out).mono ?_); rintro e w' ⟨rfl, ⟨nd, rfl⟩⟩; (try first | exact ⟨rfl, _, World.drewN_drewN _ _ _⟩ | exact ⟨rfl, _, Eq.trans (World.drewN_drewN _ _ _) (congrArg (World.drewN _) (Nat.add_assoc _ _ _))⟩); have p134 : 0 ≤ (x8_7 : Int) := of_decide_eq_true (by first | (with_reducible assumption) | assumption); have q134 : x8_7 < (((rd_T53 ((rd_T50 l0 x3_1).f2) x6_5).f1).length : Int) := of_decide_eq_true (by first | (with_reducible assumption) | assumption); obtain ⟨ad134, e134, hx134_0⟩ := Kd.at_string HR129_1.out x8_7 p134 q134; obtain rfl : ad132 = ad134 := (by injection e134); replace hx134_0 := (HB.out.cell (World.block_lt_of_cell? w _ hx134_0)).trans hx134_0; replace p134 := eq_true p134; replace q134 := eq_true q134; have p41 : 0 ≤ (0 : Int) := (by omega); have q41 : 0 < (rdOf ByteArray.empty ((rd_T53 ((rd_T50 l0 x3_1).f2) x6_5).f1) x8_7).size := (by have : (0 : Int) < ((rdOf ByteArray.empty ((rd_T53 ((rd_T50 l0 x3_1).f2) x6_5).f1) x8_7).size : Int) := of_decide_eq_true (by first | (with_reducible assumption) | assumption); omega); have hx41 : ∀ h : 0 < (rdOf ByteArray.empty ((rd_T53 ((rd_T50 l0 x3_1).f2) x6_5).f1) x8_7).size, (((rdOf ByteArray.empty ((rd_T53 ((rd_T50 l0 x3_1).f2) x6_5).f1) x8_7)[0]'h).toNat : Int) = bt (rdOf ByteArray.empty ((rd_T53 ((rd_T50 l0 x3_1).f2) x6_5).f1) x8_7) 0 := bt_at (rdOf ByteArray.empty ((rd_T53 ((rd_T50 l0 x3_1).f2) x6_5).f1) x8_7) 0; clear p41; have qi41 : (0 < ((rdOf ByteArray.empty ((rd_T53 ((rd_T50 l0 x3_1).f2) x6_5).f1) x8_7).size : Int)) = True := eq_true (of_decide_eq_true (by first | (with_reducible assumption) | assumption)); replace q41 := eq_true q41))
                                                                repeat (go_quiet (first | (go_at_call 14; (with_reducible refine (spec_Valued.calls k7 (rdOf ByteArray.empty ((rd_T53 ((rd_T50 l0 x3_1).f2) x6_5).f1) x8_7) true _ A37.out).mono ?_); rintro e w' ⟨rfl, ⟨nd, rfl⟩⟩; (try first | exact ⟨rfl, _, World.drewN_drewN _ _ _⟩ | exact ⟨rfl, _, Eq.trans (World.drewN_drewN _ _ _) (congrArg (World.drewN _) (Nat.add_assoc _ _ _))⟩); have p134 : 0 ≤ (x8_7 : Int) := of_decide_eq_true (by first | (with_reducible assumption) | assumption); have q134 : x8_7 < (((rd_T53 ((rd_T50 l0 x3_1).f2) x6_5).f1).length : Int) := of_decide_eq_true (by first | (with_reducible assumption) | assumption); obtain ⟨ad134, e134, hx134_0⟩ := Kd.at_string HR129_1.out x8_7 p134 q134; obtain rfl : ad132 = ad134 := (by injection e134); replace hx134_0 := (HB.out.cell (World.block_lt_of_cell? w _ hx134_0)).trans hx134_0; replace p134 := eq_true p134; replace q134 := eq_true q134; have p41 : 0 ≤ (0 : Int) := (by omega); have q41 : 0 < (rdOf ByteArray.empty ((rd_T53 ((rd_T50 l0 x3_1).f2) x6_5).f1) x8_7).size := (by have : (0 : Int) < ((rdOf ByteArray.empty ((rd_T53 ((rd_T50 l0 x3_1).f2) x6_5).f1) x8_7).size : Int) := of_decide_eq_true (by first | (with_reducible assumption) | assumption); omega); have hx41 : ∀ h : 0 < (rdOf ByteArray.empty ((rd_T53 ((rd_T50 l0 x3_1).f2) x6_5).f1) x8_7).size, (((rdOf ByteArray.empty ((rd_T53 ((rd_T50 l0 x3_1).f2) x6_5).f1) x8_7)[0]'h).toNat : Int) = bt (rdOf ByteArray.empty ((rd_T53 ((rd_T50 l0 x3_1).f2) x6_5).f1) x8_7) 0 := bt_at (rdOf ByteArray.empty ((rd_T53 ((rd_T50 l0 x3_1).f2) x6_5).f1) x8_7) 0; clear p41; have qi41 : (0 < ((rdOf ByteArray.empty ((rd_T53 ((rd_T50 l0 x3_1).f2) x6_5).f1) x8_7).size : Int)) = True := eq_true (of_decide_eq_true (by first | (with_reducible assumption) | assumption)); replace q41 := eq_true q41)); try go_wp2_with (first | (go_at_call 14; (with_reducible refine (spec_Valued.calls k7 (rdOf ByteArray.empty ((rd_T53 ((rd_T50 l0 x3_1).f2) x6_5).f1) x8_7) true _ A37.out).mono ?_); rintro e w' ⟨rfl, ⟨nd, rfl⟩⟩; (try first | exact ⟨rfl, _, World.drewN_drewN _ _ _⟩ | exact ⟨rfl, _, Eq.trans (World.drewN_drewN _ _ _) (congrArg (World.drewN _) (Nat.add_assoc _ _ _))⟩); have p134 : 0 ≤ (x8_7 : Int) := of_decide_eq_true (by first | (with_reducible assumption) | assumption); have q134 : x8_7 < (((rd_T53 ((rd_T50 l0 x3_1).f2) x6_5).f1).length : Int) := of_decide_eq_true (by first | (with_reducible assumption) | assumption); obtain ⟨ad134, e134, hx134_0⟩ := Kd.at_string HR129_1.out x8_7 p134 q134; obtain rfl : ad132 = ad134 := (by injection e134); replace hx134_0 := (HB.out.cell (World.block_lt_of_cell? w _ hx134_0)).trans hx134_0; replace p134 := eq_true p134; replace q134 := eq_true q134; have p41 : 0 ≤ (0 : Int) := (by omega); have q41 : 0 < (rdOf ByteArray.empty ((rd_T53 ((rd_T50 l0 x3_1).f2) x6_5).f1) x8_7).size := (by have : (0 : Int) < ((rdOf ByteArray.empty ((rd_T53 ((rd_T50 l0 x3_1).f2) x6_5).f1) x8_7).size : Int) := of_decide_eq_true (by first | (with_reducible assumption) | assumption); omega); have hx41 : ∀ h : 0 < (rdOf ByteArray.empty ((rd_T53 ((rd_T50 l0 x3_1).f2) x6_5).f1) x8_7).size, (((rdOf ByteArray.empty ((rd_T53 ((rd_T50 l0 x3_1).f2) x6_5).f1) x8_7)[0]'h).toNat : Int) = bt (rdOf ByteArray.empty ((rd_T53 ((rd_T50 l0 x3_1).f2) x6_5).f1) x8_7) 0 := bt_at (rdOf ByteArray.empty ((rd_T53 ((rd_T50 l0 x3_1).f2) x6_5).f1) x8_7) 0; clear p41; have qi41 : (0 < ((rdOf ByteArray.empty ((rd_T53 ((rd_T50 l0 x3_1).f2) x6_5).f1) x8_7).size : Int)) = True := eq_true (of_decide_eq_true (by first | (with_reducible assumption) | assumption)); replace q41 := eq_true q41)))
                                                                go_ret
                                                                exact ⟨by first | rfl | (simp [errW_none, errW_some] <;> rfl) | (simp [*, errW_none, errW_some] <;> rfl), by repeat (first | (with_reducible first | exact HB.out | apply below_alloc | apply pw_below_drewN | apply below_drew1 | refine below_set ?_ GE130.out) | exact HB.out)⟩
                                                              · rw [if_neg c42] at H
                                                                have c42b0 : ((bt (rdOf ByteArray.empty ((rd_T53 ((rd_T50 l0 x3_1).f2) x6_5).f1) x8_7) 0) == 91) = false := beq_eq_false_iff_ne.mpr c42
                                                                have c42b1 : ((bt (rdOf ByteArray.empty ((rd_T53 ((rd_T50 l0 x3_1).f2) x6_5).f1) x8_7) 0) != 91) = true := bne_iff_ne.mpr c42
                                                                by_cases c45 : (bt (rdOf ByteArray.empty ((rd_T53 ((rd_T50 l0 x3_1).f2) x6_5).f1) x8_7) 0) = 61
                                                                · rw [if_pos c45] at H
                                                                  have c45b0 : ((bt (rdOf ByteArray.empty ((rd_T53 ((rd_T50 l0 x3_1).f2) x6_5).f1) x8_7) 0) == 61) = true := beq_iff_eq.mpr c45
                                                                  have c45b1 : ((bt (rdOf ByteArray.empty ((rd_T53 ((rd_T50 l0 x3_1).f2) x6_5).f1) x8_7) 0) != 61) = false := bne_eq_false_iff_eq.mpr c45
                                                                  clear c45
                                                                  obtain rfl := Option.some.inj H
                                                                  have hcz46_0 : wr.cell? ⟨gb130, 0, none⟩ = some (.string ((rd_T53 ((rd_T50 l0 x3_1).f2) x6_5).f0)) := (blk_cell BK130.out 0).trans rfl
                                                                  have hcz46_1 : wr.cell? ⟨gb130, 1, none⟩ = some (.slice A129_1 ((rd_T53 ((rd_T50 l0 x3_1).f2) x6_5).f1).length c129_1) := (blk_cell BK130.out 1).trans rfl
                                                                  have hfz46_0 := blk_frozen BK130.out 0
                                                                  have hfz46_1 := blk_frozen BK130.out 1
                                                                  have p132 : 0 ≤ (x8_7 : Int) := of_decide_eq_true (by first | (with_reducible assumption) | assumption)
                                                                  have q132 : x8_7 < (((rd_T53 ((rd_T50 l0 x3_1).f2) x6_5).f1).length : Int) := of_decide_eq_true (by first | (with_reducible assumption) | assumption)
                                                                  obtain ⟨ad132, e132, hx132_0⟩ := Kd.at_string HR129_1.out x8_7 p132 q132
                                                                  cases e132
                                                                  replace hx132_0 := (HB.out.cell (World.block_lt_of_cell? w _ hx132_0)).trans hx132_0
                                                                  replace p132 := eq_true p132
                                                                  replace q132 := eq_true q132
                                                                  go_wp2_with (first | (go_at_call 14; (with_reducible refine (spec_Valued.calls k7 (rdOf ByteArray.empty ((rd_T53 ((rd_T50 l0 x3_1).f2) x6_5).f1) x8_7) true _ A37.out).mono ?_); rintro e w' ⟨rfl, ⟨nd, rfl⟩⟩; (try first | exact ⟨rfl, _, World.drewN_drewN _ _ _⟩ | exact ⟨rfl, _, Eq.trans (World.drewN_drewN _ _ _) (congrArg (World.drewN _) (Nat.add_assoc _ _ _))⟩); have p134 : 0 ≤ (x8_7 : Int) := of_decide_eq_true (by first | (with_reducible assumption) | assumption); have q134 : x8_7 < (((rd_T53 ((rd_T50 l0 x3_1).f2) x6_5).f1).length : Int) := of_decide_eq_true (by first | (with_reducible assumption) | assumption); obtain ⟨ad134, e134, hx134_0⟩ := Kd.at_string HR129_1.out x8_7 p134 q134; obtain rfl : ad132 = ad134 := (by injection e134); replace hx134_0 := (HB.out.cell (World.block_lt_of_cell? w _ hx134_0)).trans hx134_0; replace p134 := eq_true p134; replace q134 := eq_true q134; have p41 : 0 ≤ (0 : Int) := (by omega); have q41 : 0 < (rdOf ByteArray.empty ((rd_T53 ((rd_T50 l0 x3_1).f2) x6_5).f1) x8_7).size := (by have : (0 : Int) < ((rdOf ByteArray.empty ((rd_T53 ((rd_T50 l0 x3_1).f2) x6_5).f1) x8_7).size : Int) := of_decide_eq_true (by first | (with_reducible assumption) | assumption); omega); have hx41 : ∀ h : 0 < (rdOf ByteArray.empty ((rd_T53 ((rd_T50 l0 x3_1).f2) x6_5).f1) x8_7).size, (((rdOf ByteArray.empty ((rd_T53 ((rd_T50 l0 x3_1).f2) x6_5).f1) x8_7)[0]'h).toNat : Int) = bt (rdOf ByteArray.empty ((rd_T53 ((rd_T50 l0 x3_1).f2) x6_5).f1) x8_7) 0 := bt_at (rdOf ByteArray.empty ((rd_T53 ((rd_T50 l0 x3_1).f2) x6_5).f1) x8_7) 0; clear p41; have qi41 : (0 < ((rdOf ByteArray.empty ((rd_T53 ((rd_T50 l0 x3_1).f2) x6_5).f1) x8_7).size : Int)) = True := eq_true (of_decide_eq_true (by first | (with_reducible assumption) | assumption)); replace q41 := eq_true q41; have p135 : 0 ≤ (x8_7 : Int) := of_decide_eq_true (by first | (with_reducible assumption) | assumption); have q135 : x8_7 < (((rd_T53 ((rd_T50 l0 x3_1).f2) x6_5).f1).length : Int) := of_decide_eq_true (by first | (with_reducible assumption) | assumption); obtain ⟨ad135, e135, hx135_0⟩ := Kd.at_string HR129_1.out x8_7 p135 q135; obtain rfl : ad132 = ad135 := (by injection e135); replace hx135_0 := (HB.out.cell (World.block_lt_of_cell? w _ hx135_0)).trans hx135_0; replace p135 := eq_true p135; replace q135 := eq_true q135; have p44 : 0 ≤ (0 : Int) := (by omega); have q44 : 0 < (rdOf ByteArray.empty ((rd_T53 ((rd_T50 l0 x3_1).f2) x6_5).f1) x8_7).size := (by have : (0 : Int) < ((rdOf ByteArray.empty ((rd_T53 ((rd_T50 l0 x3_1).f2) x6_5).f1) x8_7).size : Int) := of_decide_eq_true (by first | (with_reducible assumption) | assumption); omega); have hx44 : ∀ h : 0 < (rdOf ByteArray.empty ((rd_T53 ((rd_T50 l0 x3_1).f2) x6_5).f1) x8_7).size, (((rdOf ByteArray.empty ((rd_T53 ((rd_T50 l0 x3_1).f2) x6_5).f1) x8_7)[0]'h).toNat : Int) = bt (rdOf ByteArray.empty ((rd_T53 ((rd_T50 l0 x3_1).f2) x6_5).f1) x8_7) 0 := bt_at (rdOf ByteArray.empty ((rd_T53 ((rd_T50 l0 x3_1).f2) x6_5).f1) x8_7) 0; clear p44; have qi44 : (0 < ((rdOf ByteArray.empty ((rd_T53 ((rd_T50 l0 x3_1).f2) x6_5).f1) x8_7).size : Int)) = True := eq_true (of_decide_eq_true (by first | (with_reducible assumption) | assumption)); replace q44 := eq_true q44))
                                                                  repeat (go_quiet (first | (go_at_call 14; (with_reducible refine (spec_Valued.calls k7 (rdOf ByteArray.empty ((rd_T53 ((rd_T50 l0 x3_1).f2) x6_5).f1) x8_7) true _ A37.out).mono ?_); rintro e w' ⟨rfl, ⟨nd, rfl⟩⟩; (try first | exact ⟨rfl, _, World.drewN_drewN _ _ _⟩ | exact ⟨rfl, _, Eq.trans (World.drewN_drewN _ _ _) (congrArg (World.drewN _) (Nat.add_assoc _ _ _))⟩); have p134 : 0 ≤ (x8_7 : Int) := of_decide_eq_true (by first | (with_reducible assumption) | assumption); have q134 : x8_7 < (((rd_T53 ((rd_T50 l0 x3_1).f2) x6_5).f1).length : Int) := of_decide_eq_true (by first | (with_reducible assumption) | assumption); obtain ⟨ad134, e134, hx134_0⟩ := Kd.at_string HR129_1.out x8_7 p134 q134; obtain rfl : ad132 = ad134 := (by injection e134); replace hx134_0 := (HB.out.cell (World.block_lt_of_cell? w _ hx134_0)).trans hx134_0; replace p134 := eq_true p134; replace q134 := eq_true q134; have p41 : 0 ≤ (0 : Int) := (by omega); have q41 : 0 < (rdOf ByteArray.empty ((rd_T53 ((rd_T50 l0 x3_1).f2) x6_5).f1) x8_7).size := (by have : (0 : Int) < ((rdOf ByteArray.empty ((rd_T53 ((rd_T50 l0 x3_1).f2) x6_5).f1) x8_7).size : Int) := of_decide_eq_true (by first | (with_reducible assumption) | assumption); omega); have hx41 : ∀ h : 0 < (rdOf ByteArray.empty ((rd_T53 ((rd_T50 l0 x3_1).f2) x6_5).f1) x8_7).size, (((rdOf ByteArray.empty ((rd_T53 ((rd_T50 l0 x3_1).f2) x6_5).f1) x8_7)[0]'h).toNat : Int) = bt (rdOf ByteArray.empty ((rd_T53 ((rd_T50 l0 x3_1).f2) x6_5).f1) x8_7) 0 := bt_at (rdOf ByteArray.empty ((rd_T53 ((rd_T50 l0 x3_1).f2) x6_5).f1) x8_7) 0; clear p41; have qi41 : (0 < ((rdOf ByteArray.empty ((rd_T53 ((rd_T50 l0 x3_1).f2) x6_5).f1) x8_7).size : Int)) = True := eq_true (of_decide_eq_true (by first | (with_reducible assumption) | assumption)); replace q41 := eq_true q41; have p135 : 0 ≤ (x8_7 : Int) := of_decide_eq_true (by first | (with_reducible assumption) | assumption); have q135 : x8_7 < (((rd_T53 ((rd_T50 l0 x3_1).f2) x6_5).f1).length : Int) := of_decide_eq_true (by first | (with_reducible assumption) | assumption); obtain ⟨ad135, e135, hx135_0⟩ := Kd.at_string HR129_1.out x8_7 p135 q135; obtain rfl : ad132 = ad135 := (by injection e135); replace hx135_0 := (HB.out.cell (World.block_lt_of_cell? w _ hx135_0)).trans hx135_0; replace p135 := eq_true p135; replace q135 := eq_true q135; have p44 : 0 ≤ (0 : Int) := (by omega); have q44 : 0 < (rdOf ByteArray.empty ((rd_T53 ((rd_T50 l0 x3_1).f2) x6_5).f1) x8_7).size := (by have : (0 : Int) < ((rdOf ByteArray.empty ((rd_T53 ((rd_T50 l0 x3_1).f2) x6_5).f1) x8_7).size : Int) := of_decide_eq_true (by first | (with_reducible assumption) | assumption); omega); have hx44 : ∀ h : 0 < (rdOf ByteArray.empty ((rd_T53 ((rd_T50 l0 x3_1).f2) x6_5).f1) x8_7).size, (((rdOf ByteArray.empty ((rd_T53 ((rd_T50 l0 x3_1).f2) x6_5).f1) x8_7)[0]'h).toNat : Int) = bt (rdOf ByteArray.empty ((rd_T53 ((rd_T50 l0 x3_1).f2) x6_5).f1) x8_7) 0 := bt_at (rdOf ByteArray.empty ((rd_T53 ((rd_T50 l0 x3_1).f2) x6_5).f1) x8_7) 0; clear p44; have qi44 : (0 < ((rdOf ByteArray.empty ((rd_T53 ((rd_T50 l0 x3_1).f2) x6_5).f1) x8_7).size : Int)) = True := eq_true (of_decide_eq_true (by first | (with_reducible assumption) | assumption)); replace q44 := eq_true q44)); try go_wp2_with (first | (go_at_call 14; (with_reducible refine (spec_Valued.calls k7 (rdOf ByteArray.empty ((rd_T53 ((rd_T50 l0 x3_1).f2) x6_5).f1) x8_7) true _ A37.out).mono ?_); rintro e w' ⟨rfl, ⟨nd, rfl⟩⟩; (try first | exact ⟨rfl, _, World.drewN_drewN _ _ _⟩ | exact ⟨rfl, _, Eq.trans (World.drewN_drewN _ _ _) (congrArg (World.drewN _) (Nat.add_assoc _ _ _))⟩); have p134 : 0 ≤ (x8_7 : Int) := of_decide_eq_true (by first | (with_reducible assumption) | assumption); have q134 : x8_7 < (((rd_T53 ((rd_T50 l0 x3_1).f2) x6_5).f1).length : Int) := of_decide_eq_true (by first | (with_reducible assumption) | assumption); obtain ⟨ad134, e134, hx134_0⟩ := Kd.at_string HR129_1.out x8_7 p134 q134; obtain rfl : ad132 = ad134 := (by injection e134); replace hx134_0 := (HB.out.cell (World.block_lt_of_cell? w _ hx134_0)).trans hx134_0; replace p134 := eq_true p134; replace q134 := eq_true q134; have p41 : 0 ≤ (0 : Int) := (by omega); have q41 : 0 < (rdOf ByteArray.empty ((rd_T53 ((rd_T50 l0 x3_1).f2) x6_5).f1) x8_7).size := (by have : (0 : Int) < ((rdOf ByteArray.empty ((rd_T53 ((rd_T50 l0 x3_1).f2) x6_5).f1) x8_7).size : Int) := of_decide_eq_true (by first | (with_reducible assumption) | assumption); omega); have hx41 : ∀ h : 0 < (rdOf ByteArray.empty ((rd_T53 ((rd_T50 l0 x3_1).f2) x6_5).f1) x8_7).size, (((rdOf ByteArray.empty ((rd_T53 ((rd_T50 l0 x3_1).f2) x6_5).f1) x8_7)[0]'h).toNat : Int) = bt (rdOf ByteArray.empty ((rd_T53 ((rd_T50 l0 x3_1).f2) x6_5).f1) x8_7) 0 := bt_at (rdOf ByteArray.empty ((rd_T53 ((rd_T50 l0 x3_1).f2) x6_5).f1) x8_7) 0; clear p41; have qi41 : (0 < ((rdOf ByteArray.empty ((rd_T53 ((rd_T50 l0 x3_1).f2) x6_5).f1) x8_7).size : Int)) = True := eq_true (of_decide_eq_true (by first | (with_reducible assumption) | assumption)); replace q41 := eq_true q41; have p135 : 0 ≤ (x8_7 : Int) := of_decide_eq_true (by first | (with_reducible assumption) | assumption); have q135 : x8_7 < (((rd_T53 ((rd_T50 l0 x3_1).f2) x6_5).f1).length : Int) := of_decide_eq_true (by first | (with_reducible assumption) | assumption); obtain ⟨ad135, e135, hx135_0⟩ := Kd.at_string HR129_1.out x8_7 p135 q135; obtain rfl : ad132 = ad135 := (by injection e135); replace hx135_0 := (HB.out.cell (World.block_lt_of_cell? w _ hx135_0)).trans hx135_0; replace p135 := eq_true p135; replace q135 := eq_true q135; have p44 : 0 ≤ (0 : Int) := (by omega); have q44 : 0 < (rdOf ByteArray.empty ((rd_T53 ((rd_T50 l0 x3_1).f2) x6_5).f1) x8_7).size := (by have : (0 : Int) < ((rdOf ByteArray.empty ((rd_T53 ((rd_T50 l0 x3_1).f2) x6_5).f1) x8_7).size : Int) := of_decide_eq_true (by first | (with_reducible assumption) | assumption); omega); have hx44 : ∀ h : 0 < (rdOf ByteArray.empty ((rd_T53 ((rd_T50 l0 x3_1).f2) x6_5).f1) x8_7).size, (((rdOf ByteArray.empty ((rd_T53 ((rd_T50 l0 x3_1).f2) x6_5).f1) x8_7)[0]'h).toNat : Int) = bt (rdOf ByteArray.empty ((rd_T53 ((rd_T50 l0 x3_1).f2) x6_5).f1) x8_7) 0 := bt_at (rdOf ByteArray.empty ((rd_T53 ((rd_T50 l0 x3_1).f2) x6_5).f1) x8_7) 0; clear p44; have qi44 : (0 < ((rdOf ByteArray.empty ((rd_T53 ((rd_T50 l0 x3_1).f2) x6_5).f1) x8_7).size : Int)) = True := eq_true (of_decide_eq_true (by first | (with_reducible assumption) | assumption)); replace q44 := eq_true q44)))
                                                                  go_ret
                                                                  exact ⟨by first | rfl | (simp [errW_none, errW_some] <;> rfl) | (simp [*, errW_none, errW_some] <;> rfl), by repeat (first | (with_reducible first | exact HB.out | apply below_alloc | apply pw_below_drewN | apply below_drew1 | refine below_set ?_ GE130.out) | exact HB.out)⟩
                                                                · rw [if_neg c45] at H
                                                                  have c45b0 : ((bt (rdOf ByteArray.empty ((rd_T53 ((rd_T50 l0 x3_1).f2) x6_5).f1) x8_7) 0) == 61) = false := beq_eq_false_iff_ne.mpr c45
                                                                  have c45b1 : ((bt (rdOf ByteArray.empty ((rd_T53 ((rd_T50 l0 x3_1).f2) x6_5).f1) x8_7) 0) != 61) = true := bne_iff_ne.mpr c45
                                                                  have H' := Aside0.mk H
                                                                  clear H
                                                                  have hcz47_0 : wr.cell? ⟨gb130, 0, none⟩ = some (.string ((rd_T53 ((rd_T50 l0 x3_1).f2) x6_5).f0)) := (blk_cell BK130.out 0).trans rfl
                                                                  have hcz47_1 : wr.cell? ⟨gb130, 1, none⟩ = some (.slice A129_1 ((rd_T53 ((rd_T50 l0 x3_1).f2) x6_5).f1).length c129_1) := (blk_cell BK130.out 1).trans rfl
                                                                  have hfz47_0 := blk_frozen BK130.out 0
                                                                  have hfz47_1 := blk_frozen BK130.out 1
                                                                  have p132 : 0 ≤ (x8_7 : Int) := of_decide_eq_true (by first | (with_reducible assumption) | assumption)
                                                                  have q132 : x8_7 < (((rd_T53 ((rd_T50 l0 x3_1).f2) x6_5).f1).length : Int) := of_decide_eq_true (by first | (with_reducible assumption) | assumption)
                                                                  obtain ⟨ad132, e132, hx132_0⟩ := Kd.at_string HR129_1.out x8_7 p132 q132
                                                                  cases e132
                                                                  replace hx132_0 := (HB.out.cell (World.block_lt_of_cell? w _ hx132_0)).trans hx132_0
                                                                  replace p132 := eq_true p132
                                                                  replace q132 := eq_true q132
                                                                  go_wp2_with (first | (go_at_call 14; (with_reducible refine (spec_Valued.calls k7 (rdOf ByteArray.empty ((rd_T53 ((rd_T50 l0 x3_1).f2) x6_5).f1) x8_7) true _ A37.out).mono ?_); rintro e w' ⟨rfl, ⟨nd, rfl⟩⟩; (try first | exact ⟨rfl, _, World.drewN_drewN _ _ _⟩ | exact ⟨rfl, _, Eq.trans (World.drewN_drewN _ _ _) (congrArg (World.drewN _) (Nat.add_assoc _ _ _))⟩); have p134 : 0 ≤ (x8_7 : Int) := of_decide_eq_true (by first | (with_reducible assumption) | assumption); have q134 : x8_7 < (((rd_T53 ((rd_T50 l0 x3_1).f2) x6_5).f1).length : Int) := of_decide_eq_true (by first | (with_reducible assumption) | assumption); obtain ⟨ad134, e134, hx134_0⟩ := Kd.at_string HR129_1.out x8_7 p134 q134; obtain rfl : ad132 = ad134 := (by injection e134); replace hx134_0 := (HB.out.cell (World.block_lt_of_cell? w _ hx134_0)).trans hx134_0; replace p134 := eq_true p134; replace q134 := eq_true q134; have p41 : 0 ≤ (0 : Int) := (by omega); have q41 : 0 < (rdOf ByteArray.empty ((rd_T53 ((rd_T50 l0 x3_1).f2) x6_5).f1) x8_7).size := (by have : (0 : Int) < ((rdOf ByteArray.empty ((rd_T53 ((rd_T50 l0 x3_1).f2) x6_5).f1) x8_7).size : Int) := of_decide_eq_true (by first | (with_reducible assumption) | assumption); omega); have hx41 : ∀ h : 0 < (rdOf ByteArray.empty ((rd_T53 ((rd_T50 l0 x3_1).f2) x6_5).f1) x8_7).size, (((rdOf ByteArray.empty ((rd_T53 ((rd_T50 l0 x3_1).f2) x6_5).f1) x8_7)[0]'h).toNat : Int) = bt (rdOf ByteArray.empty ((rd_T53 ((rd_T50 l0 x3_1).f2) x6_5).f1) x8_7) 0 := bt_at (rdOf ByteArray.empty ((rd_T53 ((rd_T50 l0 x3_1).f2) x6_5).f1) x8_7) 0; clear p41; have qi41 : (0 < ((rdOf ByteArray.empty ((rd_T53 ((rd_T50 l0 x3_1).f2) x6_5).f1) x8_7).size : Int)) = True := eq_true (of_decide_eq_true (by first | (with_reducible assumption) | assumption)); replace q41 := eq_true q41; have p135 : 0 ≤ (x8_7 : Int) := of_decide_eq_true (by first | (with_reducible assumption) | assumption); have q135 : x8_7 < (((rd_T53 ((rd_T50 l0 x3_1).f2) x6_5).f1).length : Int) := of_decide_eq_true (by first | (with_reducible assumption) | assumption); obtain ⟨ad135, e135, hx135_0⟩ := Kd.at_string HR129_1.out x8_7 p135 q135; obtain rfl : ad132 = ad135 := (by injection e135); replace hx135_0 := (HB.out.cell (World.block_lt_of_cell? w _ hx135_0)).trans hx135_0; replace p135 := eq_true p135; replace q135 := eq_true q135; have p44 : 0 ≤ (0 : Int) := (by omega); have q44 : 0 < (rdOf ByteArray.empty ((rd_T53 ((rd_T50 l0 x3_1).f2) x6_5).f1) x8_7).size := (by have : (0 : Int) < ((rdOf ByteArray.empty ((rd_T53 ((rd_T50 l0 x3_1).f2) x6_5).f1) x8_7).size : Int) := of_decide_eq_true (by first | (with_reducible assumption) | assumption); omega); have hx44 : ∀ h : 0 < (rdOf ByteArray.empty ((rd_T53 ((rd_T50 l0 x3_1).f2) x6_5).f1) x8_7).size, (((rdOf ByteArray.empty ((rd_T53 ((rd_T50 l0 x3_1).f2) x6_5).f1) x8_7)[0]'h).toNat : Int) = bt (rdOf ByteArray.empty ((rd_T53 ((rd_T50 l0 x3_1).f2) x6_5).f1) x8_7) 0 := bt_at (rdOf ByteArray.empty ((rd_T53 ((rd_T50 l0 x3_1).f2) x6_5).f1) x8_7) 0; clear p44; have qi44 : (0 < ((rdOf ByteArray.empty ((rd_T53 ((rd_T50 l0 x3_1).f2) x6_5).f1) x8_7).size : Int)) = True := eq_true (of_decide_eq_true (by first | (with_reducible assumption) | assumption)); replace q44 := eq_true q44))
                                                                  repeat (go_quiet (first | (go_at_call 14; (with_reducible refine (spec_Valued.calls k7 (rdOf ByteArray.empty ((rd_T53 ((rd_T50 l0 x3_1).f2) x6_5).f1) x8_7) true _ A37.out).mono ?_); rintro e w' ⟨rfl, ⟨nd, rfl⟩⟩; (try first | exact ⟨rfl, _, World.drewN_drewN _ _ _⟩ | exact ⟨rfl, _, Eq.trans (World.drewN_drewN _ _ _) (congrArg (World.drewN _) (Nat.add_assoc _ _ _))⟩); have p134 : 0 ≤ (x8_7 : Int) := of_decide_eq_true (by first | (with_reducible assumption) | assumption); have q134 : x8_7 < (((rd_T53 ((rd_T50 l0 x3_1).f2) x6_5).f1).length : Int) := of_decide_eq_true (by first | (with_reducible assumption) | assumption); obtain ⟨ad134, e134, hx134_0⟩ := Kd.at_string HR129_1.out x8_7 p134 q134; obtain rfl : ad132 = ad134 := (by injection e134); replace hx134_0 := (HB.out.cell (World.block_lt_of_cell? w _ hx134_0)).trans hx134_0; replace p134 := eq_true p134; replace q134 := eq_true q134; have p41 : 0 ≤ (0 : Int) := (by omega); have q41 : 0 < (rdOf ByteArray.empty ((rd_T53 ((rd_T50 l0 x3_1).f2) x6_5).f1) x8_7).size := (by have : (0 : Int) < ((rdOf ByteArray.empty ((rd_T53 ((rd_T50 l0 x3_1).f2) x6_5).f1) x8_7).size : Int) := of_decide_eq_true (by first | (with_reducible assumption) | assumption); omega); have hx41 : ∀ h : 0 < (rdOf ByteArray.empty ((rd_T53 ((rd_T50 l0 x3_1).f2) x6_5).f1) x8_7).size, (((rdOf ByteArray.empty ((rd_T53 ((rd_T50 l0 x3_1).f2) x6_5).f1) x8_7)[0]'h).toNat : Int) = bt (rdOf ByteArray.empty ((rd_T53 ((rd_T50 l0 x3_1).f2) x6_5).f1) x8_7) 0 := bt_at (rdOf ByteArray.empty ((rd_T53 ((rd_T50 l0 x3_1).f2) x6_5).f1) x8_7) 0; clear p41; have qi41 : (0 < ((rdOf ByteArray.empty ((rd_T53 ((rd_T50 l0 x3_1).f2) x6_5).f1) x8_7).size : Int)) = True := eq_true (of_decide_eq_true (by first | (with_reducible assumption) | assumption)); replace q41 := eq_true q41; have p135 : 0 ≤ (x8_7 : Int) := of_decide_eq_true (by first | (with_reducible assumption) | assumption); have q135 : x8_7 < (((rd_T53 ((rd_T50 l0 x3_1).f2) x6_5).f1).length : Int) := of_decide_eq_true (by first | (with_reducible assumption) | assumption); obtain ⟨ad135, e135, hx135_0⟩ := Kd.at_string HR129_1.out x8_7 p135 q135; obtain rfl : ad132 = ad135 := (by injection e135); replace hx135_0 := (HB.out.cell (World.block_lt_of_cell? w _ hx135_0)).trans hx135_0; replace p135 := eq_true p135; replace q135 := eq_true q135; have p44 : 0 ≤ (0 : Int) := (by omega); have q44 : 0 < (rdOf ByteArray.empty ((rd_T53 ((rd_T50 l0 x3_1).f2) x6_5).f1) x8_7).size := (by have : (0 : Int) < ((rdOf ByteArray.empty ((rd_T53 ((rd_T50 l0 x3_1).f2) x6_5).f1) x8_7).size : Int) := of_decide_eq_true (by first | (with_reducible assumption) | assumption); omega); have hx44 : ∀ h : 0 < (rdOf ByteArray.empty ((rd_T53 ((rd_T50 l0 x3_1).f2) x6_5).f1) x8_7).size, (((rdOf ByteArray.empty ((rd_T53 ((rd_T50 l0 x3_1).f2) x6_5).f1) x8_7)[0]'h).toNat : Int) = bt (rdOf ByteArray.empty ((rd_T53 ((rd_T50 l0 x3_1).f2) x6_5).f1) x8_7) 0 := bt_at (rdOf ByteArray.empty ((rd_T53 ((rd_T50 l0 x3_1).f2) x6_5).f1) x8_7) 0; clear p44; have qi44 : (0 < ((rdOf ByteArray.empty ((rd_T53 ((rd_T50 l0 x3_1).f2) x6_5).f1) x8_7).size : Int)) = True := eq_true (of_decide_eq_true (by first | (with_reducible assumption) | assumption)); replace q44 := eq_true q44)); try go_wp2_with (first | (go_at_call 14; (with_reducible refine (spec_Valued.calls k7 (rdOf ByteArray.empty ((rd_T53 ((rd_T50 l0 x3_1).f2) x6_5).f1) x8_7) true _ A37.out).mono ?_); rintro e w' ⟨rfl, ⟨nd, rfl⟩⟩; (try first | exact ⟨rfl, _, World.drewN_drewN _ _ _⟩ | exact ⟨rfl, _, Eq.trans (World.drewN_drewN _ _ _) (congrArg (World.drewN _) (Nat.add_assoc _ _ _))⟩); have p134 : 0 ≤ (x8_7 : Int) := of_decide_eq_true (by first | (with_reducible assumption) | assumption); have q134 : x8_7 < (((rd_T53 ((rd_T50 l0 x3_1).f2) x6_5).f1).length : Int) := of_decide_eq_true (by first | (with_reducible assumption) | assumption); obtain ⟨ad134, e134, hx134_0⟩ := Kd.at_string HR129_1.out x8_7 p134 q134; obtain rfl : ad132 = ad134 := (by injection e134); replace hx134_0 := (HB.out.cell (World.block_lt_of_cell? w _ hx134_0)).trans hx134_0; replace p134 := eq_true p134; replace q134 := eq_true q134; have p41 : 0 ≤ (0 : Int) := (by omega); have q41 : 0 < (rdOf ByteArray.empty ((rd_T53 ((rd_T50 l0 x3_1).f2) x6_5).f1) x8_7).size := (by have : (0 : Int) < ((rdOf ByteArray.empty ((rd_T53 ((rd_T50 l0 x3_1).f2) x6_5).f1) x8_7).size : Int) := of_decide_eq_true (by first | (with_reducible assumption) | assumption); omega); have hx41 : ∀ h : 0 < (rdOf ByteArray.empty ((rd_T53 ((rd_T50 l0 x3_1).f2) x6_5).f1) x8_7).size, (((rdOf ByteArray.empty ((rd_T53 ((rd_T50 l0 x3_1).f2) x6_5).f1) x8_7)[0]'h).toNat : Int) = bt (rdOf ByteArray.empty ((rd_T53 ((rd_T50 l0 x3_1).f2) x6_5).f1) x8_7) 0 := bt_at (rdOf ByteArray.empty ((rd_T53 ((rd_T50 l0 x3_1).f2) x6_5).f1) x8_7) 0; clear p41; have qi41 : (0 < ((rdOf ByteArray.empty ((rd_T53 ((rd_T50 l0 x3_1).f2) x6_5).f1) x8_7).size : Int)) = True := eq_true (of_decide_eq_true (by first | (with_reducible assumption) | assumption)); replace q41 := eq_true q41; have p135 : 0 ≤ (x8_7 : Int) := of_decide_eq_true (by first | (with_reducible assumption) | assumption); have q135 : x8_7 < (((rd_T53 ((rd_T50 l0 x3_1).f2) x6_5).f1).length : Int) := of_decide_eq_true (by first | (with_reducible assumption) | assumption); obtain ⟨ad135, e135, hx135_0⟩ := Kd.at_string HR129_1.out x8_7 p135 q135; obtain rfl : ad132 = ad135 := (by injection e135); replace hx135_0 := (HB.out.cell (World.block_lt_of_cell? w _ hx135_0)).trans hx135_0; replace p135 := eq_true p135; replace q135 := eq_true q135; have p44 : 0 ≤ (0 : Int) := (by omega); have q44 : 0 < (rdOf ByteArray.empty ((rd_T53 ((rd_T50 l0 x3_1).f2) x6_5).f1) x8_7).size := (by have : (0 : Int) < ((rdOf ByteArray.empty ((rd_T53 ((rd_T50 l0 x3_1).f2) x6_5).f1) x8_7).size : Int) := of_decide_eq_true (by first | (with_reducible assumption) | assumption); omega); have hx44 : ∀ h : 0 < (rdOf ByteArray.empty ((rd_T53 ((rd_T50 l0 x3_1).f2) x6_5).f1) x8_7).size, (((rdOf ByteArray.empty ((rd_T53 ((rd_T50 l0 x3_1).f2) x6_5).f1) x8_7)[0]'h).toNat : Int) = bt (rdOf ByteArray.empty ((rd_T53 ((rd_T50 l0 x3_1).f2) x6_5).f1) x8_7) 0 := bt_at (rdOf ByteArray.empty ((rd_T53 ((rd_T50 l0 x3_1).f2) x6_5).f1) x8_7) 0; clear p44; have qi44 : (0 < ((rdOf ByteArray.empty ((rd_T53 ((rd_T50 l0 x3_1).f2) x6_5).f1) x8_7).size : Int)) = True := eq_true (of_decide_eq_true (by first | (with_reducible assumption) | assumption)); replace q44 := eq_true q44)))
                                                                  go_roundg k7
                                                                  case measure => have := HK1.out; have := HJ2.out; have := HK3.out; have := HK4.out; have := HK5.out; have := HJ26.out; have := HK7.out; omega
                                                                  case rel => exact ⟨(wrap64 (x8_7 + 1)), (by first | rfl | (simp; done) | (simp [*]; done)), H', ⟨by have := HK1.out; have := HJ2.out; have := HK3.out; have := HK4.out; have := HK5.out; have := HJ26.out; have := HK7.out; omega⟩, ⟨by (with_reducible repeat (first | refine blk_drewN ?_ _ | refine blk_drew ?_ | refine blk_alloc ?_ _)); exact BK130.out⟩, ⟨by repeat (first | (with_reducible first | exact HB.out | apply below_alloc | apply pw_below_drewN | apply below_drew1 | refine below_set ?_ GE130.out) | exact HB.out)⟩⟩
                                                            · rw [if_neg c40] at H
                                                              exact absurd H (by simp)
                                                          · rw [if_neg c39] at H
                                                            have c39b0 : decide (0 < x8_7) = false := decide_eq_false c39
                                                            clear c39
                                                            have H' := Aside0.mk H
                                                            clear H
                                                            have hcz48_0 : wr.cell? ⟨gb130, 0, none⟩ = some (.string ((rd_T53 ((rd_T50 l0 x3_1).f2) x6_5).f0)) := (blk_cell BK130.out 0).trans rfl
                                                            have hcz48_1 : wr.cell? ⟨gb130, 1, none⟩ = some (.slice A129_1 ((rd_T53 ((rd_T50 l0 x3_1).f2) x6_5).f1).length c129_1) := (blk_cell BK130.out 1).trans rfl
                                                            have hfz48_0 := blk_frozen BK130.out 0
                                                            have hfz48_1 := blk_frozen BK130.out 1
                                                            have p132 : 0 ≤ (x8_7 : Int) := of_decide_eq_true (by first | (with_reducible assumption) | assumption)
                                                            have q132 : x8_7 < (((rd_T53 ((rd_T50 l0 x3_1).f2) x6_5).f1).length : Int) := of_decide_eq_true (by first | (with_reducible assumption) | assumption)
                                                            obtain ⟨ad132, e132, hx132_0⟩ := Kd.at_string HR129_1.out x8_7 p132 q132
                                                            cases e132
                                                            replace hx132_0 := (HB.out.cell (World.block_lt_of_cell? w _ hx132_0)).trans hx132_0
                                                            replace p132 := eq_true p132
                                                            replace q132 := eq_true q132
                                                            go_wp2_with (first | (go_at_call 14; (with_reducible refine (spec_Valued.calls k7 (rdOf ByteArray.empty ((rd_T53 ((rd_T50 l0 x3_1).f2) x6_5).f1) x8_7) true _ A37.out).mono ?_); rintro e w' ⟨rfl, ⟨nd, rfl⟩⟩; (try first | exact ⟨rfl, _, World.drewN_drewN _ _ _⟩ | exact ⟨rfl, _, Eq.trans (World.drewN_drewN _ _ _) (congrArg (World.drewN _) (Nat.add_assoc _ _ _))⟩)))
                                                            repeat (go_quiet (first | (go_at_call 14; (with_reducible refine (spec_Valued.calls k7 (rdOf ByteArray.empty ((rd_T53 ((rd_T50 l0 x3_1).f2) x6_5).f1) x8_7) true _ A37.out).mono ?_); rintro e w' ⟨rfl, ⟨nd, rfl⟩⟩; (try first | exact ⟨rfl, _, World.drewN_drewN _ _ _⟩ | exact ⟨rfl, _, Eq.trans (World.drewN_drewN _ _ _) (congrArg (World.drewN _) (Nat.add_assoc _ _ _))⟩))); try go_wp2_with (first | (go_at_call 14; (with_reducible refine (spec_Valued.calls k7 (rdOf ByteArray.empty ((rd_T53 ((rd_T50 l0 x3_1).f2) x6_5).f1) x8_7) true _ A37.out).mono ?_); rintro e w' ⟨rfl, ⟨nd, rfl⟩⟩; (try first | exact ⟨rfl, _, World.drewN_drewN _ _ _⟩ | exact ⟨rfl, _, Eq.trans (World.drewN_drewN _ _ _) (congrArg (World.drewN _) (Nat.add_assoc _ _ _))⟩))))
                                                            go_roundg k7
                                                            case measure => have := HK1.out; have := HJ2.out; have := HK3.out; have := HK4.out; have := HK5.out; have := HJ26.out; have := HK7.out; omega
                                                            case rel => exact ⟨(wrap64 (x8_7 + 1)), (by first | rfl | (simp; done) | (simp [*]; done)), H', ⟨by have := HK1.out; have := HJ2.out; have := HK3.out; have := HK4.out; have := HK5.out; have := HJ26.out; have := HK7.out; omega⟩, ⟨by (with_reducible repeat (first | refine blk_drewN ?_ _ | refine blk_drew ?_ | refine blk_alloc ?_ _)); exact BK130.out⟩, ⟨by repeat (first | (with_reducible first | exact HB.out | apply below_alloc | apply pw_below_drewN | apply below_drew1 | refine below_set ?_ GE130.out) | exact HB.out)⟩⟩
                                                        · replace c38 := Bool.eq_false_iff.mpr c38
                                                          subst c38
                                                          have H1 : (some false) = some r := by rw [if_neg (show ¬ (false = true) by decide)] at H; exact H
                                                          clear H
                                                          have H := H1
                                                          clear H1
                                                          obtain rfl := Option.some.inj H
                                                          have hcz49_0 : wr.cell? ⟨gb130, 0, none⟩ = some (.string ((rd_T53 ((rd_T50 l0 x3_1).f2) x6_5).f0)) := (blk_cell BK130.out 0).trans rfl
                                                          have hcz49_1 : wr.cell? ⟨gb130, 1, none⟩ = some (.slice A129_1 ((rd_T53 ((rd_T50 l0 x3_1).f2) x6_5).f1).length c129_1) := (blk_cell BK130.out 1).trans rfl
                                                          have hfz49_0 := blk_frozen BK130.out 0
                                                          have hfz49_1 := blk_frozen BK130.out 1
                                                          have p132 : 0 ≤ (x8_7 : Int) := of_decide_eq_true (by first | (with_reducible assumption) | assumption)
                                                          have q132 : x8_7 < (((rd_T53 ((rd_T50 l0 x3_1).f2) x6_5).f1).length : Int) := of_decide_eq_true (by first | (with_reducible assumption) | assumption)
                                                          obtain ⟨ad132, e132, hx132_0⟩ := Kd.at_string HR129_1.out x8_7 p132 q132
                                                          cases e132
                                                          replace hx132_0 := (HB.out.cell (World.block_lt_of_cell? w _ hx132_0)).trans hx132_0
                                                          replace p132 := eq_true p132
                                                          replace q132 := eq_true q132
                                                          go_wp2_with (first | (go_at_call 14; (with_reducible refine (spec_Valued.calls k7 (rdOf ByteArray.empty ((rd_T53 ((rd_T50 l0 x3_1).f2) x6_5).f1) x8_7) false _ A37.out).mono ?_); rintro e w' ⟨rfl, ⟨nd, rfl⟩⟩; (try first | exact ⟨rfl, _, World.drewN_drewN _ _ _⟩ | exact ⟨rfl, _, Eq.trans (World.drewN_drewN _ _ _) (congrArg (World.drewN _) (Nat.add_assoc _ _ _))⟩)))
                                                          repeat (go_quiet (first | (go_at_call 14; (with_reducible refine (spec_Valued.calls k7 (rdOf ByteArray.empty ((rd_T53 ((rd_T50 l0 x3_1).f2) x6_5).f1) x8_7) false _ A37.out).mono ?_); rintro e w' ⟨rfl, ⟨nd, rfl⟩⟩; (try first | exact ⟨rfl, _, World.drewN_drewN _ _ _⟩ | exact ⟨rfl, _, Eq.trans (World.drewN_drewN _ _ _) (congrArg (World.drewN _) (Nat.add_assoc _ _ _))⟩))); try go_wp2_with (first | (go_at_call 14; (with_reducible refine (spec_Valued.calls k7 (rdOf ByteArray.empty ((rd_T53 ((rd_T50 l0 x3_1).f2) x6_5).f1) x8_7) false _ A37.out).mono ?_); rintro e w' ⟨rfl, ⟨nd, rfl⟩⟩; (try first | exact ⟨rfl, _, World.drewN_drewN _ _ _⟩ | exact ⟨rfl, _, Eq.trans (World.drewN_drewN _ _ _) (congrArg (World.drewN _) (Nat.add_assoc _ _ _))⟩))))
                                                          go_ret
                                                          exact ⟨by first | rfl | (simp [errW_none, errW_some] <;> rfl) | (simp [*, errW_none, errW_some] <;> rfl), by repeat (first | (with_reducible first | exact HB.out | apply below_alloc | apply pw_below_drewN | apply below_drew1 | refine below_set ?_ GE130.out) | exact HB.out)⟩
                                                      · rw [if_neg c36] at H
                                                        exact absurd H (by simp)
                                                    · rw [if_neg c35] at H
                                                      have c35b0 : decide (x8_7 < (((rd_T53 ((rd_T50 l0 x3_1).f2) x6_5).f1).length : Int)) = false := decide_eq_false c35
                                                      clear c35
                                                      have H' := Aside0.mk H
                                                      clear H
                                                      have hcz50_0 : wr.cell? ⟨gb130, 0, none⟩ = some (.string ((rd_T53 ((rd_T50 l0 x3_1).f2) x6_5).f0)) := (blk_cell BK130.out 0).trans rfl
                                                      have hcz50_1 : wr.cell? ⟨gb130, 1, none⟩ = some (.slice A129_1 ((rd_T53 ((rd_T50 l0 x3_1).f2) x6_5).f1).length c129_1) := (blk_cell BK130.out 1).trans rfl
                                                      have hfz50_0 := blk_frozen BK130.out 0
                                                      have hfz50_1 := blk_frozen BK130.out 1
                                                      go_wp2
                                                      repeat (go_quiet (fail); try go_wp2)
                                                      go_loopg [9] k7 (fun kq v9 w' => ∃ (x9_8 : Int), v9 = .int .i64 x9_8 ∧ Aside0 (spec_Written.l5 kq l0 x3_1 x6_5 x9_8 ((rd_T53 ((rd_T50 l0 x3_1).f2) x6_5).f0) ((rd_T53 ((rd_T50 l0 x3_1).f2) x6_5).f1) = some r) ∧ Aside0 (kq ≤ k7) ∧ Aside0 (w'.heap[gb130]? = some (.cells #[.string ((rd_T53 ((rd_T50 l0 x3_1).f2) x6_5).f0), (.slice A129_1 ((rd_T53 ((rd_T50 l0 x3_1).f2) x6_5).f1).length c129_1)] 53 (0, 0))) ∧ Aside0 (Below w.heap.size w w'))
                                                      case atStart => exact ⟨(0), (by first | rfl | (simp; done) | (simp [*]; done)), H', ⟨Nat.le_refl _⟩, ⟨by (with_reducible repeat (first | refine blk_drewN ?_ _ | refine blk_drew ?_ | refine blk_alloc ?_ _)); exact BK130.out⟩, ⟨by repeat (first | (with_reducible first | exact HB.out | apply below_alloc | apply pw_below_drewN | apply below_drew1 | refine below_set ?_ GE130.out) | exact HB.out)⟩⟩
                                                      case round =>
                                                        clear H'
                                                        try clear c1
                                                        try clear p1
                                                        try clear q1
                                                        try clear hx1
                                                        try clear c2
                                                        try clear c2b0
                                                        try clear p2
                                                        try clear c3
                                                        try clear c4
                                                        try clear c4b0
                                                        try clear p4
                                                        try clear q4
                                                        try clear hx4
                                                        try clear qi4
                                                        try clear c5
                                                        try clear c5b0
                                                        try clear c5b1
                                                        try clear c6
                                                        try clear c6b0
                                                        try clear p6
                                                        try clear c8
                                                        try clear c9
                                                        try clear c10
                                                        try clear c10b0
                                                        try clear c11
                                                        try clear c11b0
                                                        try clear p11
                                                        try clear q11
                                                        try clear hx11
                                                        try clear c12
                                                        try clear c12b0
                                                        try clear p12
                                                        try clear q12
                                                        try clear hx12
                                                        try clear c13
                                                        try clear c13b0
                                                        try clear p13
                                                        try clear q13
                                                        try clear hx13
                                                        try clear c14
                                                        try clear c14b0
                                                        try clear c15
                                                        try clear c15b0
                                                        try clear c15b1
                                                        try clear c16
                                                        try clear c16b0
                                                        try clear c17
                                                        try clear c17b0
                                                        try clear c18
                                                        try clear c18b0
                                                        try clear c19
                                                        try clear c19b0
                                                        try clear c20
                                                        try clear c20b0
                                                        try clear c20b1
                                                        try clear c22
                                                        try clear c23
                                                        try clear c23b0
                                                        try clear c24
                                                        try clear c24b0
                                                        try clear c25
                                                        try clear c25b0
                                                        try clear c26
                                                        try clear c26b0
                                                        try clear c31
                                                        try clear c34
                                                        try clear c35
                                                        try clear c35b0
                                                        try clear c36
                                                        try clear c36b0
                                                        try clear c38
                                                        try clear c39
                                                        try clear c39b0
                                                        try clear c40
                                                        try clear c40b0
                                                        try clear c40b1
                                                        try clear p41
                                                        try clear q41
                                                        try clear hx41
                                                        try clear qi41
                                                        try clear c42
                                                        try clear c42b0
                                                        try clear c42b1
                                                        try clear p44
                                                        try clear q44
                                                        try clear hx44
                                                        try clear qi44
                                                        try clear c45
                                                        try clear c45b0
                                                        try clear c45b1
                                                        try clear hcz29_0
                                                        try clear hcz29_1
                                                        try clear hcz32_0
                                                        try clear hcz32_1
                                                        try clear hcz33_0
                                                        try clear hcz33_1
                                                        try clear hcz43_0
                                                        try clear hcz43_1
                                                        try clear hcz46_0
                                                        try clear hcz46_1
                                                        try clear hcz47_0
                                                        try clear hcz47_1
                                                        try clear hcz48_0
                                                        try clear hcz48_1
                                                        try clear hcz49_0
                                                        try clear hcz49_1
                                                        try clear hcz50_0
                                                        try clear hcz50_1
                                                        try clear hfz29_0
                                                        try clear hfz29_1
                                                        try clear hfz32_0
                                                        try clear hfz32_1
                                                        try clear hfz33_0
                                                        try clear hfz33_1
                                                        try clear hfz43_0
                                                        try clear hfz43_1
                                                        try clear hfz46_0
                                                        try clear hfz46_1
                                                        try clear hfz47_0
                                                        try clear hfz47_1
                                                        try clear hfz48_0
                                                        try clear hfz48_1
                                                        try clear hfz49_0
                                                        try clear hfz49_1
                                                        try clear hfz50_0
                                                        try clear hfz50_1
                                                        try clear hx113_0
                                                        try clear hx113_1
                                                        try clear hx113_2
                                                        try clear hx114_0
                                                        try clear hx114_1
                                                        try clear hx114_2
                                                        try clear hx115_0
                                                        try clear hx115_1
                                                        try clear hx115_2
                                                        try clear hx116_0
                                                        try clear hx116_1
                                                        try clear hx116_2
                                                        try clear hx118_0
                                                        try clear hx118_1
                                                        try clear hx118_2
                                                        try clear hx119_0
                                                        try clear hx119_1
                                                        try clear hx119_2
                                                        try clear hx120_0
                                                        try clear hx120_1
                                                        try clear hx120_2
                                                        try clear hx121_0
                                                        try clear hx121_1
                                                        try clear hx121_2
                                                        try clear hx122_0
                                                        try clear hx122_1
                                                        try clear hx122_2
                                                        try clear hx123_0
                                                        try clear hx124_0
                                                        try clear hx124_1
                                                        try clear hx124_2
                                                        try clear hx125_0
                                                        try clear hx127_0
                                                        try clear hx127_1
                                                        try clear hx127_2
                                                        try clear hx128_0
                                                        try clear hx128_1
                                                        try clear hx128_2
                                                        try clear hx129_0
                                                        try clear hx129_1
                                                        try clear hx132_0
                                                        try clear hx134_0
                                                        try clear hx135_0
                                                        try clear p1
                                                        try clear p11
                                                        try clear p113
                                                        try clear p114
                                                        try clear p115
                                                        try clear p116
                                                        try clear p118
                                                        try clear p119
                                                        try clear p12
                                                        try clear p120
                                                        try clear p121
                                                        try clear p122
                                                        try clear p123
                                                        try clear p124
                                                        try clear p125
                                                        try clear p127
                                                        try clear p128
                                                        try clear p129
                                                        try clear p132
                                                        try clear p134
                                                        try clear p135
                                                        try clear p2
                                                        try clear p41
                                                        try clear p44
                                                        try clear p6
                                                        try clear q1
                                                        try clear q11
                                                        try clear q113
                                                        try clear q114
                                                        try clear q115
                                                        try clear q116
                                                        try clear q118
                                                        try clear q119
                                                        try clear q12
                                                        try clear q120
                                                        try clear q121
                                                        try clear q122
                                                        try clear q123
                                                        try clear q124
                                                        try clear q125
                                                        try clear q127
                                                        try clear q128
                                                        try clear q129
                                                        try clear q132
                                                        try clear q134
                                                        try clear q135
                                                        try clear q41
                                                        try clear q44
                                                        obtain ⟨x9_8, rfl, HA, HK8, BK130, HB⟩ := hrel
                                                        cases gk with
                                                        | zero => exact absurd HA.out (by simp [spec_Written.l5])
                                                        | succ k8 =>
                                                          have H := HA.out
                                                          clear HA
                                                          simp only [spec_Written.l5] at H
                                                          by_cases c51 : x9_8 < x6_5
                                                          · rw [if_pos c51] at H
                                                            have c51b0 : decide (x9_8 < x6_5) = true := decide_eq_true c51
                                                            clear c51
                                                            by_cases c52 : 0 ≤ x3_1
                                                            · rw [if_pos c52] at H
                                                              have c52b0 : decide (0 ≤ x3_1) = true := decide_eq_true c52
                                                              clear c52
                                                              by_cases c53 : x3_1 < (l0.length : Int)
                                                              · rw [if_pos c53] at H
                                                                have c53b0 : decide (x3_1 < (l0.length : Int)) = true := decide_eq_true c53
                                                                clear c53
                                                                by_cases c54 : 0 ≤ x9_8
                                                                · rw [if_pos c54] at H
                                                                  have c54b0 : decide (0 ≤ x9_8) = true := decide_eq_true c54
                                                                  clear c54
                                                                  by_cases c55 : x9_8 < (((rd_T50 l0 x3_1).f2).length : Int)
                                                                  · rw [if_pos c55] at H
                                                                    have c55b0 : decide (x9_8 < (((rd_T50 l0 x3_1).f2).length : Int)) = true := decide_eq_true c55
                                                                    clear c55
                                                                    by_cases c56 : ((rd_T53 ((rd_T50 l0 x3_1).f2) x9_8).f0).toList = ((rd_T53 ((rd_T50 l0 x3_1).f2) x6_5).f0).toList
                                                                    · rw [if_pos c56] at H
                                                                      have c56b0 : (((rd_T53 ((rd_T50 l0 x3_1).f2) x9_8).f0).toList == ((rd_T53 ((rd_T50 l0 x3_1).f2) x6_5).f0).toList) = true := beq_iff_eq.mpr c56
                                                                      have c56b1 : (((rd_T53 ((rd_T50 l0 x3_1).f2) x9_8).f0).toList != ((rd_T53 ((rd_T50 l0 x3_1).f2) x6_5).f0).toList) = false := bne_eq_false_iff_eq.mpr c56
                                                                      clear c56
                                                                      obtain rfl := Option.some.inj H
                                                                      have p136 : 0 ≤ (x3_1 : Int) := of_decide_eq_true (by first | (with_reducible assumption) | assumption)
                                                                      have q136 : x3_1 < (l0.length : Int) := of_decide_eq_true (by first | (with_reducible assumption) | assumption)
                                                                      obtain ⟨ad136, A136_1, c136_1, A136_2, c136_2, e136, hx136_0, hx136_1, hx136_2, hl136_1, hi136_1, hl136_2, hi136_2⟩ := at_T50 HR0.out x3_1 p136 q136
                                                                      obtain rfl : ad121 = ad136 := (by injection e136)
                                                                      replace hx136_0 := (HB.out.cell (World.block_lt_of_cell? w _ hx136_0)).trans hx136_0
                                                                      replace hx136_1 := (HB.out.cell (World.block_lt_of_cell? w _ hx136_1)).trans hx136_1
                                                                      replace hx136_2 := (HB.out.cell (World.block_lt_of_cell? w _ hx136_2)).trans hx136_2
                                                                      have HR136_1 := Aside0.mk hi136_1
                                                                      have HC136_1 := Aside0.mk hl136_1
                                                                      clear hi136_1 hl136_1
                                                                      have HR136_2 := Aside0.mk hi136_2
                                                                      have HC136_2 := Aside0.mk hl136_2
                                                                      clear hi136_2 hl136_2
                                                                      replace p136 := eq_true p136
                                                                      replace q136 := eq_true q136
                                                                      have p137 : 0 ≤ (x9_8 : Int) := of_decide_eq_true (by first | (with_reducible assumption) | assumption)
                                                                      have q137 : x9_8 < (((rd_T50 l0 x3_1).f2).length : Int) := of_decide_eq_true (by first | (with_reducible assumption) | assumption)
                                                                      obtain ⟨ad137, A137_1, c137_1, e137, hx137_0, hx137_1, hl137_1, hi137_1⟩ := at_T53 HR136_2.out x9_8 p137 q137
                                                                      cases e137
                                                                      replace hx137_0 := (HB.out.cell (World.block_lt_of_cell? w _ hx137_0)).trans hx137_0
                                                                      replace hx137_1 := (HB.out.cell (World.block_lt_of_cell? w _ hx137_1)).trans hx137_1
                                                                      have HR137_1 := Aside0.mk hi137_1
                                                                      have HC137_1 := Aside0.mk hl137_1
                                                                      clear hi137_1 hl137_1
                                                                      replace p137 := eq_true p137
                                                                      replace q137 := eq_true q137
                                                                      have hcz57_0 : wr.cell? ⟨gb130, 0, none⟩ = some (.string ((rd_T53 ((rd_T50 l0 x3_1).f2) x6_5).f0)) := (blk_cell BK130.out 0).trans rfl
                                                                      have hcz57_1 : wr.cell? ⟨gb130, 1, none⟩ = some (.slice A129_1 ((rd_T53 ((rd_T50 l0 x3_1).f2) x6_5).f1).length c129_1) := (blk_cell BK130.out 1).trans rfl
                                                                      have hfz57_0 := blk_frozen BK130.out 0
                                                                      have hfz57_1 := blk_frozen BK130.out 1
                                                                      go_wp2
                                                                      repeat (go_quiet (fail); try go_wp2)
                                                                      go_ret
                                                                      exact ⟨by first | rfl | (simp [errW_none, errW_some] <;> rfl) | (simp [*, errW_none, errW_some] <;> rfl), by repeat (first | (with_reducible first | exact HB.out | apply below_alloc | apply pw_below_drewN | apply below_drew1 | refine below_set ?_ GE130.out) | exact HB.out)⟩
                                                                    · rw [if_neg c56] at H
                                                                      have c56b0 : (((rd_T53 ((rd_T50 l0 x3_1).f2) x9_8).f0).toList == ((rd_T53 ((rd_T50 l0 x3_1).f2) x6_5).f0).toList) = false := beq_eq_false_iff_ne.mpr c56
                                                                      have c56b1 : (((rd_T53 ((rd_T50 l0 x3_1).f2) x9_8).f0).toList != ((rd_T53 ((rd_T50 l0 x3_1).f2) x6_5).f0).toList) = true := bne_iff_ne.mpr c56
                                                                      have H' := Aside0.mk H
                                                                      clear H
                                                                      have p136 : 0 ≤ (x3_1 : Int) := of_decide_eq_true (by first | (with_reducible assumption) | assumption)
                                                                      have q136 : x3_1 < (l0.length : Int) := of_decide_eq_true (by first | (with_reducible assumption) | assumption)
                                                                      obtain ⟨ad136, A136_1, c136_1, A136_2, c136_2, e136, hx136_0, hx136_1, hx136_2, hl136_1, hi136_1, hl136_2, hi136_2⟩ := at_T50 HR0.out x3_1 p136 q136
                                                                      obtain rfl : ad121 = ad136 := (by injection e136)
                                                                      replace hx136_0 := (HB.out.cell (World.block_lt_of_cell? w _ hx136_0)).trans hx136_0
                                                                      replace hx136_1 := (HB.out.cell (World.block_lt_of_cell? w _ hx136_1)).trans hx136_1
                                                                      replace hx136_2 := (HB.out.cell (World.block_lt_of_cell? w _ hx136_2)).trans hx136_2
                                                                      have HR136_1 := Aside0.mk hi136_1
                                                                      have HC136_1 := Aside0.mk hl136_1
                                                                      clear hi136_1 hl136_1
                                                                      have HR136_2 := Aside0.mk hi136_2
                                                                      have HC136_2 := Aside0.mk hl136_2
                                                                      clear hi136_2 hl136_2
                                                                      replace p136 := eq_true p136
                                                                      replace q136 := eq_true q136
                                                                      have p137 : 0 ≤ (x9_8 : Int) := of_decide_eq_true (by first | (with_reducible assumption) | assumption)
                                                                      have q137 : x9_8 < (((rd_T50 l0 x3_1).f2).length : Int) := of_decide_eq_true (by first | (with_reducible assumption) | assumption)
                                                                      obtain ⟨ad137, A137_1, c137_1, e137, hx137_0, hx137_1, hl137_1, hi137_1⟩ := at_T53 HR136_2.out x9_8 p137 q137
                                                                      cases e137
                                                                      replace hx137_0 := (HB.out.cell (World.block_lt_of_cell? w _ hx137_0)).trans hx137_0
                                                                      replace hx137_1 := (HB.out.cell (World.block_lt_of_cell? w _ hx137_1)).trans hx137_1
                                                                      have HR137_1 := Aside0.mk hi137_1
                                                                      have HC137_1 := Aside0.mk hl137_1
                                                                      clear hi137_1 hl137_1
                                                                      replace p137 := eq_true p137
                                                                      replace q137 := eq_true q137
                                                                      have hcz58_0 : wr.cell? ⟨gb130, 0, none⟩ = some (.string ((rd_T53 ((rd_T50 l0 x3_1).f2) x6_5).f0)) := (blk_cell BK130.out 0).trans rfl
                                                                      have hcz58_1 : wr.cell? ⟨gb130, 1, none⟩ = some (.slice A129_1 ((rd_T53 ((rd_T50 l0 x3_1).f2) x6_5).f1).length c129_1) := (blk_cell BK130.out 1).trans rfl
                                                                      have hfz58_0 := blk_frozen BK130.out 0
                                                                      have hfz58_1 := blk_frozen BK130.out 1
                                                                      go_wp2
                                                                      repeat (go_quiet (fail); try go_wp2)
                                                                      go_roundg k8
                                                                      case measure => have := HK1.out; have := HJ2.out; have := HK3.out; have := HK4.out; have := HK5.out; have := HJ26.out; have := HK7.out; have := HK8.out; omega
                                                                      case rel => exact ⟨(wrap64 (x9_8 + 1)), (by first | rfl | (simp; done) | (simp [*]; done)), H', ⟨by have := HK1.out; have := HJ2.out; have := HK3.out; have := HK4.out; have := HK5.out; have := HJ26.out; have := HK7.out; have := HK8.out; omega⟩, ⟨by (with_reducible repeat (first | refine blk_drewN ?_ _ | refine blk_drew ?_ | refine blk_alloc ?_ _)); exact BK130.out⟩, ⟨by repeat (first | (with_reducible first | exact HB.out | apply below_alloc | apply pw_below_drewN | apply below_drew1 | refine below_set ?_ GE130.out) | exact HB.out)⟩⟩
                                                                  · rw [if_neg c55] at H
                                                                    exact absurd H (by simp)
                                                                · rw [if_neg c54] at H
                                                                  exact absurd H (by simp)
                                                              · rw [if_neg c53] at H
                                                                exact absurd H (by simp)
                                                            · rw [if_neg c52] at H
                                                              exact absurd H (by simp)
                                                          · rw [if_neg c51] at H
                                                            have c51b0 : decide (x9_8 < x6_5) = false := decide_eq_false c51
                                                            clear c51
                                                            have H' := Aside0.mk H
                                                            clear H
                                                            go_wp2
                                                            repeat (go_quiet (fail); try go_wp2)
                                                            go_roundg k8
                                                            case measure => have := HK1.out; have := HJ2.out; have := HK3.out; have := HK4.out; have := HK5.out; have := HJ26.out; have := HK7.out; have := HK8.out; omega
                                                            case rel => exact ⟨(wrap64 (x6_5 + 1)), (by first | rfl | (simp; done) | (simp [*]; done)), H', ⟨by have := HK1.out; have := HJ2.out; have := HK3.out; have := HK4.out; have := HK5.out; have := HJ26.out; have := HK7.out; have := HK8.out; omega⟩, ⟨by repeat (first | (with_reducible first | exact HB.out | apply below_alloc | apply pw_below_drewN | apply below_drew1 | refine below_set ?_ GE130.out) | exact HB.out)⟩⟩
                                        · rw [if_neg c26] at H
                                          exact absurd H (by simp)
                                      · rw [if_neg c25] at H
                                        have c25b0 : decide (x6_5 < (((rd_T50 l0 x3_1).f2).length : Int)) = false := decide_eq_false c25
                                        clear c25
                                        have H' := Aside0.mk H
                                        clear H
                                        have p127 : 0 ≤ (x3_1 : Int) := of_decide_eq_true (by first | (with_reducible assumption) | assumption)
                                        have q127 : x3_1 < (l0.length : Int) := of_decide_eq_true (by first | (with_reducible assumption) | assumption)
                                        obtain ⟨ad127, A127_1, c127_1, A127_2, c127_2, e127, hx127_0, hx127_1, hx127_2, hl127_1, hi127_1, hl127_2, hi127_2⟩ := at_T50 HR0.out x3_1 p127 q127
                                        obtain rfl : ad121 = ad127 := (by injection e127)
                                        replace hx127_0 := (HB.out.cell (World.block_lt_of_cell? w _ hx127_0)).trans hx127_0
                                        replace hx127_1 := (HB.out.cell (World.block_lt_of_cell? w _ hx127_1)).trans hx127_1
                                        replace hx127_2 := (HB.out.cell (World.block_lt_of_cell? w _ hx127_2)).trans hx127_2
                                        have HR127_1 := Aside0.mk hi127_1
                                        have HC127_1 := Aside0.mk hl127_1
                                        clear hi127_1 hl127_1
                                        have HR127_2 := Aside0.mk hi127_2
                                        have HC127_2 := Aside0.mk hl127_2
                                        clear hi127_2 hl127_2
                                        replace p127 := eq_true p127
                                        replace q127 := eq_true q127
                                        go_wp2
                                        repeat (go_quiet (fail); try go_wp2)
                                        go_roundg k5
                                        case measure => have := HK1.out; have := HJ2.out; have := HK3.out; have := HK4.out; have := HK5.out; omega
                                        case rel => exact ⟨(wrap64 (x3_1 + 1)), (by first | rfl | (simp; done) | (simp [*]; done)), H', ⟨by have := HK1.out; have := HJ2.out; have := HK3.out; have := HK4.out; have := HK5.out; omega⟩, ⟨by repeat (first | (with_reducible first | exact HB.out | apply below_alloc | apply pw_below_drewN | apply below_drew1) | exact HB.out)⟩⟩
                                    · rw [if_neg c24] at H
                                      exact absurd H (by simp)
                                  · rw [if_neg c23] at H
                                    exact absurd H (by simp)
                          · rw [if_neg c17] at H
                            exact absurd H (by simp)
                        · rw [if_neg c16] at H
                          exact absurd H (by simp)
      · rw [if_neg c2] at H
        have c2b0 : decide (x3_1 < (l0.length : Int)) = false := decide_eq_false c2
        clear c2
        obtain rfl := Option.some.inj H
        go_wp2
        repeat (go_quiet (fail); try go_wp2)
        go_ret
        exact ⟨by first | rfl | (simp [errW_none, errW_some] <;> rfl) | (simp [*, errW_none, errW_some] <;> rfl), by repeat (first | (with_reducible first | exact HB.out | apply below_alloc | apply pw_below_drewN | apply below_drew1) | exact HB.out)⟩

end Go.Proofs.YtbomcdnijklgjaaGreatDoor.PFnConfigValues
