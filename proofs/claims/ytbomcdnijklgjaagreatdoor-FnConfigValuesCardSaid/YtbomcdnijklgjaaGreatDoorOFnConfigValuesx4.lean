/- The machine side of laws.FnConfigValues: each function of this text answers what its Lean function answers (written for this claim by a program of this session over the kit's print; no condition beyond what each theorem says). -/
import Derived.Test.YtbomcdnijklgjaaGreatDoorOFnConfigValuesx0
import Derived.Test.YtbomcdnijklgjaaGreatDoorOFnConfigValuesx3
namespace Go.Proofs.YtbomcdnijklgjaaGreatDoor.PFnConfigValues
open Go.RowKit Go.Proofs.YtbomcdnijklgjaaGreatDoorW.PrintWords Go.Proofs.YtbomcdnijklgjaaGreatDoorW.PrintLast Go.Proofs.YtbomcdnijklgjaaGreatDoorW.PrintMore
attribute [local go_sem] max2_int min2_int max_two min_two max_three min_three max_four min_four   -- for this text's walks alone
set_option linter.unusedVariables false
set_option linter.unusedSimpArgs false

/-! ### laws_conf: function 7 -/
mutual
def laws_conf.l0 : Nat → List (S50) → Int → Option (Bool)
  | 0, _, _ => none
  | k + 1, x0, x3 => if x3 < (x0.length : Int) then (if 0 ≤ x3 then (if (((rd_T50 x0 x3).f1).length : Int) > 4 then (laws_conf.j1 k x0 x3 true) else (laws_conf.j1 k x0 x3 (decide ((((rd_T50 x0 x3).f2).length : Int) > 6)))) else (none)) else (if (x0.length : Int) ≤ 5 then ((spec_Written.f k x0).bind fun t138 => (some t138)) else (some false))
def laws_conf.j1 : Nat → List (S50) → Int → Bool → Option (Bool)
  | 0, _, _, _ => none
  | k + 1, x0, x3, x29 => if x29 = true then (some false) else (laws_conf.l1 k x0 x3 0)
def laws_conf.l1 : Nat → List (S50) → Int → Int → Option (Bool)
  | 0, _, _, _ => none
  | k + 1, x0, x3, x4 => if 0 ≤ x3 then (if x3 < (x0.length : Int) then (if x4 < (((rd_T50 x0 x3).f2).length : Int) then (if 0 ≤ x4 then (if (((rd_T53 ((rd_T50 x0 x3).f2) x4).f1).length : Int) > 4 then (some false) else (laws_conf.l1 k x0 x3 (wrap64 (x4 + 1)))) else (none)) else (laws_conf.l0 k x0 (wrap64 (x3 + 1)))) else (none)) else (none)
end
def laws_conf.f (k : Nat) (l0 : List (S50)) : Option (Bool) := if (l0.length : Int) > 5 then (some false) else (laws_conf.l0 k l0 0)
theorem laws_conf.mono_l : ∀ k, (∀ y0 y1, LeO (laws_conf.l0 k y0 y1) (laws_conf.l0 (k + 1) y0 y1)) ∧ (∀ y0 y1 y2, LeO (laws_conf.j1 k y0 y1 y2) (laws_conf.j1 (k + 1) y0 y1 y2)) ∧ (∀ y0 y1 y2, LeO (laws_conf.l1 k y0 y1 y2) (laws_conf.l1 (k + 1) y0 y1 y2))
  | 0 => ⟨fun _ _ r h => by simp [laws_conf.l0] at h, fun _ _ _ r h => by simp [laws_conf.j1] at h, fun _ _ _ r h => by simp [laws_conf.l1] at h⟩
  | k + 1 => by
    obtain ⟨ih0, ih1, ih2⟩ := laws_conf.mono_l k
    refine ⟨?_, ?_, ?_⟩
    · intro y0 y1
      unfold laws_conf.l0
      repeat' first
      | (with_reducible exact ih0 _ _)
      | (with_reducible exact ih1 _ _ _)
      | (with_reducible exact ih2 _ _ _)
      | (with_reducible exact spec_Written.mono _ _)
      | (with_reducible exact LeO.refl _)
      | (with_reducible exact LeO.none _)
      | (with_reducible refine LeO.ite ?_ ?_)
      | (with_reducible refine LeO.bind ?_ (fun _ => ?_))
      | exact ih0 _ _
      | exact ih1 _ _ _
      | exact ih2 _ _ _
      | exact spec_Written.mono _ _
      | exact LeO.none _
      | refine LeO.ite ?_ ?_
      | refine LeO.bind ?_ (fun _ => ?_)
    · intro y0 y1 y2
      unfold laws_conf.j1
      repeat' first
      | (with_reducible exact ih0 _ _)
      | (with_reducible exact ih1 _ _ _)
      | (with_reducible exact ih2 _ _ _)
      | (with_reducible exact spec_Written.mono _ _)
      | (with_reducible exact LeO.refl _)
      | (with_reducible exact LeO.none _)
      | (with_reducible refine LeO.ite ?_ ?_)
      | (with_reducible refine LeO.bind ?_ (fun _ => ?_))
      | exact ih0 _ _
      | exact ih1 _ _ _
      | exact ih2 _ _ _
      | exact spec_Written.mono _ _
      | exact LeO.none _
      | refine LeO.ite ?_ ?_
      | refine LeO.bind ?_ (fun _ => ?_)
    · intro y0 y1 y2
      unfold laws_conf.l1
      repeat' first
      | (with_reducible exact ih0 _ _)
      | (with_reducible exact ih1 _ _ _)
      | (with_reducible exact ih2 _ _ _)
      | (with_reducible exact spec_Written.mono _ _)
      | (with_reducible exact LeO.refl _)
      | (with_reducible exact LeO.none _)
      | (with_reducible refine LeO.ite ?_ ?_)
      | (with_reducible refine LeO.bind ?_ (fun _ => ?_))
      | exact ih0 _ _
      | exact ih1 _ _ _
      | exact ih2 _ _ _
      | exact spec_Written.mono _ _
      | exact LeO.none _
      | refine LeO.ite ?_ ?_
      | refine LeO.bind ?_ (fun _ => ?_)
theorem laws_conf.mono : ∀ a0 k, LeO (laws_conf.f k a0) (laws_conf.f (k + 1) a0) := by
  intro a0 k
  obtain ⟨ih0, ih1, ih2⟩ := laws_conf.mono_l k
  unfold laws_conf.f
  repeat' first
      | (with_reducible exact ih0 _ _)
      | (with_reducible exact ih1 _ _ _)
      | (with_reducible exact ih2 _ _ _)
      | (with_reducible exact spec_Written.mono _ _)
      | (with_reducible exact LeO.refl _)
      | (with_reducible exact LeO.none _)
      | (with_reducible refine LeO.ite ?_ ?_)
      | (with_reducible refine LeO.bind ?_ (fun _ => ?_))
      | exact ih0 _ _
      | exact ih1 _ _ _
      | exact ih2 _ _ _
      | exact spec_Written.mono _ _
      | exact LeO.none _
      | refine LeO.ite ?_ ?_
      | refine LeO.bind ?_ (fun _ => ?_)
set_option maxHeartbeats 8000000 in
set_option maxRecDepth 100000 in
theorem laws_conf.calls (k : Nat) (A0 : Option Addr) (c0 : Nat) (l0 : List (S50)) (r : Bool) (w : World) (hr0 : Kd.C k50 w A0 l0.length l0) (hc0 : l0.length ≤ c0) (h : laws_conf.f k l0 = some r) :
    Calls Tryz.prog 7 #[.slice A0 l0.length c0] w fun e w' => e = .returned (.bool r) ∧ Below w.heap.size w w' := by
  have HR0 := Aside0.mk hr0
  have HC0 := Aside0.mk hc0
  clear hr0 hc0
  have HB := Aside0.mk (Below.refl w.heap.size w)
  have H : (if (l0.length : Int) > 5 then (some false) else (laws_conf.l0 k l0 0)) = some r := h
  clear h
  by_cases c2 : (l0.length : Int) > 5
  · rw [if_pos c2] at H
    have c2b0 : decide (5 < (l0.length : Int)) = true := decide_eq_true c2
    have c2b1 : decide (5 < l0.length) = true := decide_eq_true (by omega)
    clear c2
    obtain rfl := Option.some.inj H
    go_enter Tryz.func7, Tryz.ntmps7
    go_wp2
    go_ret
    exact ⟨by first | rfl | (simp [errW_none, errW_some] <;> rfl) | (simp [*, errW_none, errW_some] <;> rfl), by repeat (first | (with_reducible first | exact HB.out | apply below_alloc | apply pw_below_drewN | apply below_drew1) | exact HB.out)⟩
  · rw [if_neg c2] at H
    have c2b0 : decide (5 < (l0.length : Int)) = false := decide_eq_false c2
    have c2b1 : decide (5 < l0.length) = false := decide_eq_false (by omega)
    clear c2
    have H' := Aside0.mk H
    clear H
    go_enter Tryz.func7, Tryz.ntmps7
    go_wp2
    go_loopg [3] k (fun kq v3 w' => ∃ (x3_1 : Int), v3 = .int .i64 x3_1 ∧ Aside0 (laws_conf.l0 kq l0 x3_1 = some r) ∧ Aside0 (kq ≤ k) ∧ Aside0 (Below w.heap.size w w'))
    case atStart => exact ⟨(0), (by first | rfl | (simp; done) | (simp [*]; done)), H', ⟨Nat.le_refl _⟩, ⟨by repeat (first | (with_reducible first | exact HB.out | apply below_alloc | apply pw_below_drewN | apply below_drew1) | exact HB.out)⟩⟩
    case round =>
      clear H'
      try clear c2
      try clear c2b0
      try clear c2b1
      try clear p2
      obtain ⟨x3_1, rfl, HA, HK1, HB⟩ := hrel
      cases gk with
      | zero => exact absurd HA.out (by simp [laws_conf.l0])
      | succ k1 =>
        have H := HA.out
        clear HA
        simp only [laws_conf.l0] at H
        by_cases c3 : x3_1 < (l0.length : Int)
        · rw [if_pos c3] at H
          have c3b0 : decide (x3_1 < (l0.length : Int)) = true := decide_eq_true c3
          clear c3
          have HC4 := Aside0.mk H
          clear H
          go_upto_region 6 with (fail)
          go_cut [29] (fun v29 wc => ∃ (kq : Nat) (x29_3 : Bool), v29 = .bool x29_3 ∧ Aside0 (laws_conf.j1 kq l0 x3_1 x29_3 = some r) ∧ Aside0 (kq ≤ k1) ∧ Aside0 (Below w.heap.size w wc))
          case first =>
            have H := HC4.out
            clear HC4
            by_cases c5 : 0 ≤ x3_1
            · rw [if_pos c5] at H
              have c5b0 : decide (0 ≤ x3_1) = true := decide_eq_true c5
              clear c5
              (first | rw [c5b0] | (simp only [i64_w, i32_w]; rw [c5b0]) | skip)
              by_cases c6 : (((rd_T50 l0 x3_1).f1).length : Int) > 4
              · rw [if_pos c6] at H
                have c6b0 : decide (4 < (((rd_T50 l0 x3_1).f1).length : Int)) = true := decide_eq_true c6
                have c6b1 : decide (4 < ((rd_T50 l0 x3_1).f1).length) = true := decide_eq_true (by omega)
                clear c6
                have H' := Aside0.mk H
                clear H
                have p139 : 0 ≤ (x3_1 : Int) := of_decide_eq_true (by first | (with_reducible assumption) | assumption)
                have q139 : x3_1 < (l0.length : Int) := of_decide_eq_true (by first | (with_reducible assumption) | assumption)
                obtain ⟨ad139, A139_1, c139_1, A139_2, c139_2, e139, hx139_0, hx139_1, hx139_2, hl139_1, hi139_1, hl139_2, hi139_2⟩ := at_T50 HR0.out x3_1 p139 q139
                cases e139
                replace hx139_0 := (HB.out.cell (World.block_lt_of_cell? w _ hx139_0)).trans hx139_0
                replace hx139_1 := (HB.out.cell (World.block_lt_of_cell? w _ hx139_1)).trans hx139_1
                replace hx139_2 := (HB.out.cell (World.block_lt_of_cell? w _ hx139_2)).trans hx139_2
                have HR139_1 := Aside0.mk hi139_1
                have HC139_1 := Aside0.mk hl139_1
                clear hi139_1 hl139_1
                have HR139_2 := Aside0.mk hi139_2
                have HC139_2 := Aside0.mk hl139_2
                clear hi139_2 hl139_2
                replace p139 := eq_true p139
                replace q139 := eq_true q139
                go_wp2
                go_meet
                case rel => exact ⟨_, (true), (by first | rfl | (simp; done) | (simp [*]; done)), H', ⟨by have := HK1.out; first | omega | exact Nat.le_refl _⟩, ⟨by repeat (first | (with_reducible first | exact HB.out | apply below_alloc | apply pw_below_drewN | apply below_drew1) | exact HB.out)⟩⟩
              · rw [if_neg c6] at H
                have c6b0 : decide (4 < (((rd_T50 l0 x3_1).f1).length : Int)) = false := decide_eq_false c6
                have c6b1 : decide (4 < ((rd_T50 l0 x3_1).f1).length) = false := decide_eq_false (by omega)
                clear c6
                have H' := Aside0.mk H
                clear H
                have p139 : 0 ≤ (x3_1 : Int) := of_decide_eq_true (by first | (with_reducible assumption) | assumption)
                have q139 : x3_1 < (l0.length : Int) := of_decide_eq_true (by first | (with_reducible assumption) | assumption)
                obtain ⟨ad139, A139_1, c139_1, A139_2, c139_2, e139, hx139_0, hx139_1, hx139_2, hl139_1, hi139_1, hl139_2, hi139_2⟩ := at_T50 HR0.out x3_1 p139 q139
                cases e139
                replace hx139_0 := (HB.out.cell (World.block_lt_of_cell? w _ hx139_0)).trans hx139_0
                replace hx139_1 := (HB.out.cell (World.block_lt_of_cell? w _ hx139_1)).trans hx139_1
                replace hx139_2 := (HB.out.cell (World.block_lt_of_cell? w _ hx139_2)).trans hx139_2
                have HR139_1 := Aside0.mk hi139_1
                have HC139_1 := Aside0.mk hl139_1
                clear hi139_1 hl139_1
                have HR139_2 := Aside0.mk hi139_2
                have HC139_2 := Aside0.mk hl139_2
                clear hi139_2 hl139_2
                replace p139 := eq_true p139
                replace q139 := eq_true q139
                have p140 : 0 ≤ (x3_1 : Int) := of_decide_eq_true (by first | (with_reducible assumption) | assumption)
                have q140 : x3_1 < (l0.length : Int) := of_decide_eq_true (by first | (with_reducible assumption) | assumption)
                obtain ⟨ad140, A140_1, c140_1, A140_2, c140_2, e140, hx140_0, hx140_1, hx140_2, hl140_1, hi140_1, hl140_2, hi140_2⟩ := at_T50 HR0.out x3_1 p140 q140
                obtain rfl : ad139 = ad140 := (by injection e140)
                replace hx140_0 := (HB.out.cell (World.block_lt_of_cell? w _ hx140_0)).trans hx140_0
                replace hx140_1 := (HB.out.cell (World.block_lt_of_cell? w _ hx140_1)).trans hx140_1
                replace hx140_2 := (HB.out.cell (World.block_lt_of_cell? w _ hx140_2)).trans hx140_2
                have HR140_1 := Aside0.mk hi140_1
                have HC140_1 := Aside0.mk hl140_1
                clear hi140_1 hl140_1
                have HR140_2 := Aside0.mk hi140_2
                have HC140_2 := Aside0.mk hl140_2
                clear hi140_2 hl140_2
                replace p140 := eq_true p140
                replace q140 := eq_true q140
                have ea_ := Option.some.inj (hx139_1.symm.trans hx140_1)
                injection ea_ with ea_ en_ ec_
                subst ea_
                subst ec_
                clear en_
                have ea_ := Option.some.inj (hx139_2.symm.trans hx140_2)
                injection ea_ with ea_ en_ ec_
                subst ea_
                subst ec_
                clear en_
                go_wp2
                go_meet
                case rel => exact ⟨_, (decide ((((rd_T50 l0 x3_1).f2).length : Int) > 6)), (by first | rfl | (simp; done) | (simp [*]; done)), H', ⟨by have := HK1.out; first | omega | exact Nat.le_refl _⟩, ⟨by repeat (first | (with_reducible first | exact HB.out | apply below_alloc | apply pw_below_drewN | apply below_drew1) | exact HB.out)⟩⟩
            · rw [if_neg c5] at H
              exact absurd H (by simp)
          case rest =>
            clear HC4
            try clear c1
            try clear p1
            try clear q1
            try clear hx1
            try clear c2
            try clear c2b0
            try clear c2b1
            try clear p2
            try clear c3
            try clear c3b0
            try clear c5
            try clear c5b0
            try clear c6
            try clear c6b0
            try clear c6b1
            try clear hx139_0
            try clear hx139_1
            try clear hx139_2
            try clear hx140_0
            try clear hx140_1
            try clear hx140_2
            try clear p139
            try clear p140
            try clear p2
            try clear q139
            try clear q140
            obtain ⟨kq, x29_3, rfl, HA, HJ3, HB⟩ := hcut
            cases kq with
            | zero => exact absurd HA.out (by simp [laws_conf.j1])
            | succ kj3 =>
              have H := HA.out
              clear HA
              simp only [laws_conf.j1] at H
              by_cases c7 : x29_3 = true
              · subst c7
                have H1 : (some false) = some r := by rw [if_pos rfl] at H; exact H
                clear H
                have H := H1
                clear H1
                obtain rfl := Option.some.inj H
                go_wp2
                go_ret
                exact ⟨by first | rfl | (simp [errW_none, errW_some] <;> rfl) | (simp [*, errW_none, errW_some] <;> rfl), by repeat (first | (with_reducible first | exact HB.out | apply below_alloc | apply pw_below_drewN | apply below_drew1) | exact HB.out)⟩
              · replace c7 := Bool.eq_false_iff.mpr c7
                subst c7
                have H1 : (laws_conf.l1 kj3 l0 x3_1 0) = some r := by rw [if_neg (show ¬ (false = true) by decide)] at H; exact H
                clear H
                have H := H1
                clear H1
                have H' := Aside0.mk H
                clear H
                go_wp2
                go_loopg [4] kj3 (fun kq v4 w' => ∃ (x4_3 : Int), v4 = .int .i64 x4_3 ∧ Aside0 (laws_conf.l1 kq l0 x3_1 x4_3 = some r) ∧ Aside0 (kq ≤ kj3) ∧ Aside0 (Below w.heap.size w w'))
                case atStart => exact ⟨(0), (by first | rfl | (simp; done) | (simp [*]; done)), H', ⟨Nat.le_refl _⟩, ⟨by repeat (first | (with_reducible first | exact HB.out | apply below_alloc | apply pw_below_drewN | apply below_drew1) | exact HB.out)⟩⟩
                case round =>
                  clear H'
                  try clear c1
                  try clear p1
                  try clear q1
                  try clear hx1
                  try clear c2
                  try clear c2b0
                  try clear c2b1
                  try clear p2
                  try clear c3
                  try clear c3b0
                  try clear c5
                  try clear c5b0
                  try clear c6
                  try clear c6b0
                  try clear c6b1
                  try clear c7
                  try clear hx139_0
                  try clear hx139_1
                  try clear hx139_2
                  try clear hx140_0
                  try clear hx140_1
                  try clear hx140_2
                  try clear p1
                  try clear p139
                  try clear p140
                  try clear p2
                  try clear q1
                  try clear q139
                  try clear q140
                  obtain ⟨x4_3, rfl, HA, HK3, HB⟩ := hrel
                  cases gk with
                  | zero => exact absurd HA.out (by simp [laws_conf.l1])
                  | succ k3 =>
                    have H := HA.out
                    clear HA
                    simp only [laws_conf.l1] at H
                    by_cases c8 : 0 ≤ x3_1
                    · rw [if_pos c8] at H
                      have c8b0 : decide (0 ≤ x3_1) = true := decide_eq_true c8
                      clear c8
                      by_cases c9 : x3_1 < (l0.length : Int)
                      · rw [if_pos c9] at H
                        have c9b0 : decide (x3_1 < (l0.length : Int)) = true := decide_eq_true c9
                        clear c9
                        by_cases c10 : x4_3 < (((rd_T50 l0 x3_1).f2).length : Int)
                        · rw [if_pos c10] at H
                          have c10b0 : decide (x4_3 < (((rd_T50 l0 x3_1).f2).length : Int)) = true := decide_eq_true c10
                          clear c10
                          by_cases c11 : 0 ≤ x4_3
                          · rw [if_pos c11] at H
                            have c11b0 : decide (0 ≤ x4_3) = true := decide_eq_true c11
                            clear c11
                            by_cases c12 : (((rd_T53 ((rd_T50 l0 x3_1).f2) x4_3).f1).length : Int) > 4
                            · rw [if_pos c12] at H
                              have c12b0 : decide (4 < (((rd_T53 ((rd_T50 l0 x3_1).f2) x4_3).f1).length : Int)) = true := decide_eq_true c12
                              have c12b1 : decide (4 < ((rd_T53 ((rd_T50 l0 x3_1).f2) x4_3).f1).length) = true := decide_eq_true (by omega)
                              clear c12
                              obtain rfl := Option.some.inj H
                              have p141 : 0 ≤ (x3_1 : Int) := of_decide_eq_true (by first | (with_reducible assumption) | assumption)
                              have q141 : x3_1 < (l0.length : Int) := of_decide_eq_true (by first | (with_reducible assumption) | assumption)
                              obtain ⟨ad141, A141_1, c141_1, A141_2, c141_2, e141, hx141_0, hx141_1, hx141_2, hl141_1, hi141_1, hl141_2, hi141_2⟩ := at_T50 HR0.out x3_1 p141 q141
                              cases e141
                              replace hx141_0 := (HB.out.cell (World.block_lt_of_cell? w _ hx141_0)).trans hx141_0
                              replace hx141_1 := (HB.out.cell (World.block_lt_of_cell? w _ hx141_1)).trans hx141_1
                              replace hx141_2 := (HB.out.cell (World.block_lt_of_cell? w _ hx141_2)).trans hx141_2
                              have HR141_1 := Aside0.mk hi141_1
                              have HC141_1 := Aside0.mk hl141_1
                              clear hi141_1 hl141_1
                              have HR141_2 := Aside0.mk hi141_2
                              have HC141_2 := Aside0.mk hl141_2
                              clear hi141_2 hl141_2
                              replace p141 := eq_true p141
                              replace q141 := eq_true q141
                              have p142 : 0 ≤ (x3_1 : Int) := of_decide_eq_true (by first | (with_reducible assumption) | assumption)
                              have q142 : x3_1 < (l0.length : Int) := of_decide_eq_true (by first | (with_reducible assumption) | assumption)
                              obtain ⟨ad142, A142_1, c142_1, A142_2, c142_2, e142, hx142_0, hx142_1, hx142_2, hl142_1, hi142_1, hl142_2, hi142_2⟩ := at_T50 HR0.out x3_1 p142 q142
                              obtain rfl : ad141 = ad142 := (by injection e142)
                              replace hx142_0 := (HB.out.cell (World.block_lt_of_cell? w _ hx142_0)).trans hx142_0
                              replace hx142_1 := (HB.out.cell (World.block_lt_of_cell? w _ hx142_1)).trans hx142_1
                              replace hx142_2 := (HB.out.cell (World.block_lt_of_cell? w _ hx142_2)).trans hx142_2
                              have HR142_1 := Aside0.mk hi142_1
                              have HC142_1 := Aside0.mk hl142_1
                              clear hi142_1 hl142_1
                              have HR142_2 := Aside0.mk hi142_2
                              have HC142_2 := Aside0.mk hl142_2
                              clear hi142_2 hl142_2
                              replace p142 := eq_true p142
                              replace q142 := eq_true q142
                              have ea_ := Option.some.inj (hx141_1.symm.trans hx142_1)
                              injection ea_ with ea_ en_ ec_
                              subst ea_
                              subst ec_
                              clear en_
                              have ea_ := Option.some.inj (hx141_2.symm.trans hx142_2)
                              injection ea_ with ea_ en_ ec_
                              subst ea_
                              subst ec_
                              clear en_
                              have p143 : 0 ≤ (x4_3 : Int) := of_decide_eq_true (by first | (with_reducible assumption) | assumption)
                              have q143 : x4_3 < (((rd_T50 l0 x3_1).f2).length : Int) := of_decide_eq_true (by first | (with_reducible assumption) | assumption)
                              obtain ⟨ad143, A143_1, c143_1, e143, hx143_0, hx143_1, hl143_1, hi143_1⟩ := at_T53 HR142_2.out x4_3 p143 q143
                              cases e143
                              replace hx143_0 := (HB.out.cell (World.block_lt_of_cell? w _ hx143_0)).trans hx143_0
                              replace hx143_1 := (HB.out.cell (World.block_lt_of_cell? w _ hx143_1)).trans hx143_1
                              have HR143_1 := Aside0.mk hi143_1
                              have HC143_1 := Aside0.mk hl143_1
                              clear hi143_1 hl143_1
                              replace p143 := eq_true p143
                              replace q143 := eq_true q143
                              go_wp2
                              go_ret
                              exact ⟨by first | rfl | (simp [errW_none, errW_some] <;> rfl) | (simp [*, errW_none, errW_some] <;> rfl), by repeat (first | (with_reducible first | exact HB.out | apply below_alloc | apply pw_below_drewN | apply below_drew1) | exact HB.out)⟩
                            · rw [if_neg c12] at H
                              have c12b0 : decide (4 < (((rd_T53 ((rd_T50 l0 x3_1).f2) x4_3).f1).length : Int)) = false := decide_eq_false c12
                              have c12b1 : decide (4 < ((rd_T53 ((rd_T50 l0 x3_1).f2) x4_3).f1).length) = false := decide_eq_false (by omega)
                              clear c12
                              have H' := Aside0.mk H
                              clear H
                              have p141 : 0 ≤ (x3_1 : Int) := of_decide_eq_true (by first | (with_reducible assumption) | assumption)
                              have q141 : x3_1 < (l0.length : Int) := of_decide_eq_true (by first | (with_reducible assumption) | assumption)
                              obtain ⟨ad141, A141_1, c141_1, A141_2, c141_2, e141, hx141_0, hx141_1, hx141_2, hl141_1, hi141_1, hl141_2, hi141_2⟩ := at_T50 HR0.out x3_1 p141 q141
                              cases e141
                              replace hx141_0 := (HB.out.cell (World.block_lt_of_cell? w _ hx141_0)).trans hx141_0
                              replace hx141_1 := (HB.out.cell (World.block_lt_of_cell? w _ hx141_1)).trans hx141_1
                              replace hx141_2 := (HB.out.cell (World.block_lt_of_cell? w _ hx141_2)).trans hx141_2
                              have HR141_1 := Aside0.mk hi141_1
                              have HC141_1 := Aside0.mk hl141_1
                              clear hi141_1 hl141_1
                              have HR141_2 := Aside0.mk hi141_2
                              have HC141_2 := Aside0.mk hl141_2
                              clear hi141_2 hl141_2
                              replace p141 := eq_true p141
                              replace q141 := eq_true q141
                              have p142 : 0 ≤ (x3_1 : Int) := of_decide_eq_true (by first | (with_reducible assumption) | assumption)
                              have q142 : x3_1 < (l0.length : Int) := of_decide_eq_true (by first | (with_reducible assumption) | assumption)
                              obtain ⟨ad142, A142_1, c142_1, A142_2, c142_2, e142, hx142_0, hx142_1, hx142_2, hl142_1, hi142_1, hl142_2, hi142_2⟩ := at_T50 HR0.out x3_1 p142 q142
                              obtain rfl : ad141 = ad142 := (by injection e142)
                              replace hx142_0 := (HB.out.cell (World.block_lt_of_cell? w _ hx142_0)).trans hx142_0
                              replace hx142_1 := (HB.out.cell (World.block_lt_of_cell? w _ hx142_1)).trans hx142_1
                              replace hx142_2 := (HB.out.cell (World.block_lt_of_cell? w _ hx142_2)).trans hx142_2
                              have HR142_1 := Aside0.mk hi142_1
                              have HC142_1 := Aside0.mk hl142_1
                              clear hi142_1 hl142_1
                              have HR142_2 := Aside0.mk hi142_2
                              have HC142_2 := Aside0.mk hl142_2
                              clear hi142_2 hl142_2
                              replace p142 := eq_true p142
                              replace q142 := eq_true q142
                              have ea_ := Option.some.inj (hx141_1.symm.trans hx142_1)
                              injection ea_ with ea_ en_ ec_
                              subst ea_
                              subst ec_
                              clear en_
                              have ea_ := Option.some.inj (hx141_2.symm.trans hx142_2)
                              injection ea_ with ea_ en_ ec_
                              subst ea_
                              subst ec_
                              clear en_
                              have p143 : 0 ≤ (x4_3 : Int) := of_decide_eq_true (by first | (with_reducible assumption) | assumption)
                              have q143 : x4_3 < (((rd_T50 l0 x3_1).f2).length : Int) := of_decide_eq_true (by first | (with_reducible assumption) | assumption)
                              obtain ⟨ad143, A143_1, c143_1, e143, hx143_0, hx143_1, hl143_1, hi143_1⟩ := at_T53 HR142_2.out x4_3 p143 q143
                              cases e143
                              replace hx143_0 := (HB.out.cell (World.block_lt_of_cell? w _ hx143_0)).trans hx143_0
                              replace hx143_1 := (HB.out.cell (World.block_lt_of_cell? w _ hx143_1)).trans hx143_1
                              have HR143_1 := Aside0.mk hi143_1
                              have HC143_1 := Aside0.mk hl143_1
                              clear hi143_1 hl143_1
                              replace p143 := eq_true p143
                              replace q143 := eq_true q143
                              go_wp2
                              go_roundg k3
                              case measure => have := HK1.out; have := HJ3.out; have := HK3.out; omega
                              case rel => exact ⟨(wrap64 (x4_3 + 1)), (by first | rfl | (simp; done) | (simp [*]; done)), H', ⟨by have := HK1.out; have := HJ3.out; have := HK3.out; omega⟩, ⟨by repeat (first | (with_reducible first | exact HB.out | apply below_alloc | apply pw_below_drewN | apply below_drew1) | exact HB.out)⟩⟩
                          · rw [if_neg c11] at H
                            exact absurd H (by simp)
                        · rw [if_neg c10] at H
                          have c10b0 : decide (x4_3 < (((rd_T50 l0 x3_1).f2).length : Int)) = false := decide_eq_false c10
                          clear c10
                          have H' := Aside0.mk H
                          clear H
                          have p141 : 0 ≤ (x3_1 : Int) := of_decide_eq_true (by first | (with_reducible assumption) | assumption)
                          have q141 : x3_1 < (l0.length : Int) := of_decide_eq_true (by first | (with_reducible assumption) | assumption)
                          obtain ⟨ad141, A141_1, c141_1, A141_2, c141_2, e141, hx141_0, hx141_1, hx141_2, hl141_1, hi141_1, hl141_2, hi141_2⟩ := at_T50 HR0.out x3_1 p141 q141
                          cases e141
                          replace hx141_0 := (HB.out.cell (World.block_lt_of_cell? w _ hx141_0)).trans hx141_0
                          replace hx141_1 := (HB.out.cell (World.block_lt_of_cell? w _ hx141_1)).trans hx141_1
                          replace hx141_2 := (HB.out.cell (World.block_lt_of_cell? w _ hx141_2)).trans hx141_2
                          have HR141_1 := Aside0.mk hi141_1
                          have HC141_1 := Aside0.mk hl141_1
                          clear hi141_1 hl141_1
                          have HR141_2 := Aside0.mk hi141_2
                          have HC141_2 := Aside0.mk hl141_2
                          clear hi141_2 hl141_2
                          replace p141 := eq_true p141
                          replace q141 := eq_true q141
                          go_wp2
                          go_roundg k3
                          case measure => have := HK1.out; have := HJ3.out; have := HK3.out; omega
                          case rel => exact ⟨(wrap64 (x3_1 + 1)), (by first | rfl | (simp; done) | (simp [*]; done)), H', ⟨by have := HK1.out; have := HJ3.out; have := HK3.out; omega⟩, ⟨by repeat (first | (with_reducible first | exact HB.out | apply below_alloc | apply pw_below_drewN | apply below_drew1) | exact HB.out)⟩⟩
                      · rw [if_neg c9] at H
                        exact absurd H (by simp)
                    · rw [if_neg c8] at H
                      exact absurd H (by simp)
        · rw [if_neg c3] at H
          have c3b0 : decide (x3_1 < (l0.length : Int)) = false := decide_eq_false c3
          clear c3
          by_cases c13 : (l0.length : Int) ≤ 5
          · rw [if_pos c13] at H
            have c13b0 : decide ((l0.length : Int) ≤ 5) = true := decide_eq_true c13
            have c13b1 : decide (l0.length ≤ 5) = true := decide_eq_true (by omega)
            clear c13
            replace H := Option.bind_eq_some_iff.mp H
            obtain ⟨t138, A140, H⟩ := H
            replace H : (some t138) = some r := H
            have A14 := Aside0.mk A140
            clear A140
            obtain rfl := Option.some.inj H
            go_wp2_with (first | (go_at_call 24; (with_reducible refine (spec_Written.calls k1 _ _ l0 t138 _ ?side1 ?side2 A14.out).mono ?_); (case side1 => repeat (first | exact (Kd.C_below HR0.out HB.out) | (with_reducible refine Kd.C_alloc ?_ _) | (with_reducible refine Kd.C_drewN ?_ _) | (with_reducible refine Kd.C_drew ?_))); (case side2 => exact HC0.out); rintro e w15 ⟨rfl, hb⟩; have n0_ := Aside0.mk (below_step (by repeat (first | (with_reducible first | exact HB.out | apply below_alloc | apply pw_below_drewN | apply below_drew1) | exact HB.out)) hb); clear HB; have HB := n0_; clear n0_; (try clear hb); (try clear hb2); (try clear hk); (try clear hi)))
            go_ret
            exact ⟨by first | rfl | (simp [errW_none, errW_some] <;> rfl) | (simp [*, errW_none, errW_some] <;> rfl), by repeat (first | (with_reducible first | exact HB.out | apply below_alloc | apply pw_below_drewN | apply below_drew1) | exact HB.out)⟩
          · rw [if_neg c13] at H
            have c13b0 : decide ((l0.length : Int) ≤ 5) = false := decide_eq_false c13
            have c13b1 : decide (l0.length ≤ 5) = false := decide_eq_false (by omega)
            clear c13
            obtain rfl := Option.some.inj H
            go_wp2
            go_ret
            exact ⟨by first | rfl | (simp [errW_none, errW_some] <;> rfl) | (simp [*, errW_none, errW_some] <;> rfl), by repeat (first | (with_reducible first | exact HB.out | apply below_alloc | apply pw_below_drewN | apply below_drew1) | exact HB.out)⟩

/-! ### laws_key: function 8 -/
def laws_key.f (k : Nat) (a0 : ByteArray) (a1 : ByteArray) : Option (Bool) := (spec_Written.f k (([(⟨a0, ([] : List ByteArray), (([(⟨a1, (([(⟨#[120]⟩ : ByteArray)] : List ByteArray))⟩ : S53)] : List (S53)))⟩ : S50)] : List (S50)))).bind fun t153 => (some t153)
theorem laws_key.mono : ∀ a0 a1 k, LeO (laws_key.f k a0 a1) (laws_key.f (k + 1) a0 a1) := by
  intro a0 a1 k
  unfold laws_key.f
  repeat' first
      | (with_reducible exact spec_Written.mono _ _)
      | (with_reducible exact LeO.refl _)
      | (with_reducible exact LeO.none _)
      | (with_reducible refine LeO.ite ?_ ?_)
      | (with_reducible refine LeO.bind ?_ (fun _ => ?_))
      | exact spec_Written.mono _ _
      | exact LeO.none _
      | refine LeO.ite ?_ ?_
      | refine LeO.bind ?_ (fun _ => ?_)
set_option maxHeartbeats 8000000 in
set_option maxRecDepth 100000 in
theorem laws_key.calls (k : Nat) (a0 : ByteArray) (a1 : ByteArray) (r : Bool) (w : World) (h : laws_key.f k a0 a1 = some r) :
    Calls Tryz.prog 8 #[.string a0, .string a1] w fun e w' => e = .returned (.bool r) ∧ Below w.heap.size w w' := by
  have hu53 := Tryz.underlying53
  have hu50 := Tryz.underlying50
  have HB := Aside0.mk (Below.refl w.heap.size w)
  have H : ((spec_Written.f k (([(⟨a0, ([] : List ByteArray), (([(⟨a1, (([(⟨#[120]⟩ : ByteArray)] : List ByteArray))⟩ : S53)] : List (S53)))⟩ : S50)] : List (S50)))).bind fun t153 => (some t153)) = some r := h
  clear h
  obtain ⟨y144, hy144⟩ : ∃ y_ : List ByteArray, y_ = (([(⟨#[120]⟩ : ByteArray)] : List ByteArray)) := ⟨_, rfl⟩
  replace H : ((spec_Written.f k (([(⟨a0, ([] : List ByteArray), (([(⟨a1, y144⟩ : S53)] : List (S53)))⟩ : S50)] : List (S50)))).bind fun t153 => (some t153)) = some r := by first | (rw [hy144]; with_reducible exact H) | (have H2_ := (Option.bind_some _ _).symm.trans H; rw [hy144]; with_reducible exact H2_) | (have H2_ := (Option.bind_some _ _).symm.trans H; with_reducible exact H2_) | with_reducible exact H | (rw [hy144]; exact H) | exact H
  have Ny144 := Aside0.mk hy144
  clear hy144
  obtain ⟨y147, hy147⟩ : ∃ y_ : List (S53), y_ = (([(⟨a1, y144⟩ : S53)] : List (S53))) := ⟨_, rfl⟩
  replace H : ((spec_Written.f k (([(⟨a0, ([] : List ByteArray), y147⟩ : S50)] : List (S50)))).bind fun t153 => (some t153)) = some r := by first | (rw [hy147]; with_reducible exact H) | (have H2_ := (Option.bind_some _ _).symm.trans H; rw [hy147]; with_reducible exact H2_) | (have H2_ := (Option.bind_some _ _).symm.trans H; with_reducible exact H2_) | with_reducible exact H | (rw [hy147]; exact H) | exact H
  have Ny147 := Aside0.mk hy147
  clear hy147
  obtain ⟨y150, hy150⟩ : ∃ y_ : List (S50), y_ = (([(⟨a0, ([] : List ByteArray), y147⟩ : S50)] : List (S50))) := ⟨_, rfl⟩
  replace H : ((spec_Written.f k y150).bind fun t153 => (some t153)) = some r := by first | (rw [hy150]; with_reducible exact H) | (have H2_ := (Option.bind_some _ _).symm.trans H; rw [hy150]; with_reducible exact H2_) | (have H2_ := (Option.bind_some _ _).symm.trans H; with_reducible exact H2_) | with_reducible exact H | (rw [hy150]; exact H) | exact H
  have Ny150 := Aside0.mk hy150
  clear hy150
  replace H := Option.bind_eq_some_iff.mp H
  obtain ⟨t153, A30, H⟩ := H
  replace H : (some t153) = some r := H
  have A3 := Aside0.mk A30
  clear A30
  obtain rfl := Option.some.inj H
  go_enter Tryz.func8, Tryz.ntmps8
  go_wp2_with (first | ((with_reducible refine gate_dst (N := 7) rfl ?_); refine Kd.R_lit Kd.string _ 9 ?hg (N := 7) ?hd (xs := ([(⟨#[120]⟩ : ByteArray)] : List ByteArray)) (inner := [.string (⟨#[120]⟩ : ByteArray)]) (ok := fun _ => True) (okp := fun _ => True) ?hr ?hp (fun _ hk => hk) trivial (Below.refl _ _) (Nat.le_refl _) (by simp) ?_; (case hd => rfl); (case hg => rfl); (case hr => first | (go_simp; done) | (go_simp; rfl)); (case hp => exact (Reps.one (show Kd.M Kd.string _ _ _ (⟨#[120]⟩ : ByteArray) [.string (⟨#[120]⟩ : ByteArray)] from rfl) (Reps.none _ _))); intro v145 w4 ho5 hb hg_ hnew_; clear hg_ hnew_; (first | rw [← Ny144.out] at ho5 | (simp only [Int.reduceToNat] at ho5; rw [← Ny144.out] at ho5)); have n0_ := Aside0.mk (Kd.R_lower ho5 (below_size (by repeat (first | (with_reducible first | exact HB.out | apply below_alloc | apply pw_below_drewN | apply below_drew1) | exact HB.out)))); have n1_ := Aside0.mk (below_step (by repeat (first | (with_reducible first | exact HB.out | apply below_alloc | apply pw_below_drewN | apply below_drew1) | exact HB.out)) hb); clear HB; have HO146 := n0_; have HB := n1_; clear n0_ n1_; clear hb ho5; obtain ⟨Ao6, co6, eo6⟩ := Kd.R_slice HO146.out; subst eo6) | ((with_reducible refine gate_dst (N := 9) rfl ?_); refine Kd.N_lit k53 _ 53 ?hg (N' := 9) ?hd (xs := ([(⟨a1, y144⟩ : S53)] : List (S53))) (inner := [.string a1, .slice Ao6 y144.length co6]) (ok := (fun _ => True)) (okp := (fun _ => True)) ?hr ?hp (fun _ hk => hk) ((show ∀ k_, w4.heap.size ≤ k_ → (fun _ => True) k_ from fun k_ hk => trivial) _ (Nat.le_refl _)) (Below.refl _ _) (Nat.le_refl _) (by simp) ?_; (case hd => rfl); (case hg => rfl); (case hr => first | (go_simp; done) | (go_simp; rfl)); (case hp => exact (Reps.c2 (show Kd.FK k53 _ _ (⟨a1, y144⟩ : S53) [.string a1, .slice Ao6 y144.length co6] from (k53_mkF _ _ (⟨a1, y144⟩ : S53) (Kd.R_reads' (Kd.R_mono (ok' := (fun _ => True)) (HO146.out) (fun k_ hk => trivial))).2.1 (Kd.R_F (Kd.R_mono (ok' := (fun _ => True)) (HO146.out) (fun k_ hk => trivial))))) (Reps.none _ _))); intro v148 w7 ho8 hb hg_ hnew_; clear hg_ hnew_; (first | rw [← Ny147.out] at ho8 | (simp only [Int.reduceToNat] at ho8; rw [← Ny147.out] at ho8)); have n0_ := Aside0.mk (Kd.N_lower ho8 (below_size (by repeat (first | (with_reducible first | exact HB.out | apply below_alloc | apply pw_below_drewN | apply below_drew1) | exact HB.out)))); have n1_ := Aside0.mk (below_step (by repeat (first | (with_reducible first | exact HB.out | apply below_alloc | apply pw_below_drewN | apply below_drew1) | exact HB.out)) hb); clear HB; clear HO146; have HO149 := n0_; have HB := n1_; clear n0_ n1_; clear hb ho8; obtain ⟨Ao9, co9, eo9⟩ := Kd.N_slice HO149.out; subst eo9) | ((with_reducible refine gate_dst (N := 11) rfl ?_); refine Kd.N_lit k50 _ 50 ?hg (N' := 11) ?hd (xs := ([(⟨a0, ([] : List ByteArray), y147⟩ : S50)] : List (S50))) (inner := [.string a0, .slice none 0 0, .slice Ao9 y147.length co9]) (ok := (fun _ => True)) (okp := (fun _ => True)) ?hr ?hp (fun _ hk => hk) ((show ∀ k_, w7.heap.size ≤ k_ → (fun _ => True) k_ from fun k_ hk => trivial) _ (Nat.le_refl _)) (Below.refl _ _) (Nat.le_refl _) (by simp) ?_; (case hd => rfl); (case hg => rfl); (case hr => first | (go_simp; done) | (go_simp; rfl)); (case hp => exact (Reps.c3 (show Kd.FK k50 _ _ (⟨a0, ([] : List ByteArray), y147⟩ : S50) [.string a0, .slice none 0 0, .slice Ao9 y147.length co9] from (k50_mkF _ _ (⟨a0, ([] : List ByteArray), y147⟩ : S50) (Nat.le_refl _) (Kd.F_nil _ _ _) (Kd.N_reads' (Kd.N_mono (ok' := (fun _ => True)) (HO149.out) (fun k_ hk => trivial))).2.1 (Kd.N_F (Kd.N_mono (ok' := (fun _ => True)) (HO149.out) (fun k_ hk => trivial))))) (Reps.none _ _))); intro v151 w10 ho11 hb hg_ hnew_; clear hg_ hnew_; (first | rw [← Ny150.out] at ho11 | (simp only [Int.reduceToNat] at ho11; rw [← Ny150.out] at ho11)); have n0_ := Aside0.mk (Kd.N_lower ho11 (below_size (by repeat (first | (with_reducible first | exact HB.out | apply below_alloc | apply pw_below_drewN | apply below_drew1) | exact HB.out)))); have n1_ := Aside0.mk (below_step (by repeat (first | (with_reducible first | exact HB.out | apply below_alloc | apply pw_below_drewN | apply below_drew1) | exact HB.out)) hb); clear HB; clear HO149; have HO152 := n0_; have HB := n1_; clear n0_ n1_; clear hb ho11; obtain ⟨Ao12, co12, eo12⟩ := Kd.N_slice HO152.out; subst eo12) | ((with_reducible refine gate_callee (f := 24) rfl ?_); refine goesL_ (some 12) rfl rfl Tryz.func24 (by kernel_rfl) rfl #[.slice Ao12 y150.length co12] rfl (by (try simp only [List.map_toArray, List.map_cons, List.map_nil]); first | done | rfl | (simp only [List.length_drop, List.length_take]; rfl)) ?_; (with_reducible refine (spec_Written.calls k _ _ y150 t153 _ ?side1 ?side2 A3.out).mono ?_); (case side1 => repeat (first | exact (Kd.N_reads' HO152.out).2.2 | (with_reducible refine Kd.C_alloc ?_ _) | (with_reducible refine Kd.C_drewN ?_ _) | (with_reducible refine Kd.C_drew ?_))); (case side2 => exact (Kd.N_reads' HO152.out).2.1); rintro e w13 ⟨rfl, hb⟩; refine ⟨_, rfl, ?_⟩; have n0_ := Aside0.mk (Kd.N_below (by (with_reducible repeat (first | apply Kd.N_alloc | apply Kd.N_drewN | apply Kd.N_drew)); exact HO152.out) hb); have n1_ := Aside0.mk (below_step (by repeat (first | (with_reducible first | exact HB.out | apply below_alloc | apply pw_below_drewN | apply below_drew1) | exact HB.out)) hb); clear HO152; clear HB; have HO152 := n0_; have HB := n1_; clear n0_ n1_; (try clear hb); (try clear hb2); (try clear hk); (try clear hi)))
  go_ret
  exact ⟨by first | rfl | (simp [errW_none, errW_some] <;> rfl) | (simp [*, errW_none, errW_some] <;> rfl), by repeat (first | (with_reducible first | exact HB.out | apply below_alloc | apply pw_below_drewN | apply below_drew1) | exact HB.out)⟩

end Go.Proofs.YtbomcdnijklgjaaGreatDoor.PFnConfigValues
