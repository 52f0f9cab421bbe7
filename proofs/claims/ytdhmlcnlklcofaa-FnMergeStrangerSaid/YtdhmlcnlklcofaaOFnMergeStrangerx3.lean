/- The machine side of laws.FnMergeStranger: each function of this text answers what its Lean function answers (written for this claim by a program of this session over the kit's print; no condition beyond what each theorem says). -/
import Derived.Test.YtdhmlcnlklcofaaOFnMergeStrangerx0
import Derived.Test.YtdhmlcnlklcofaaOFnMergeStrangerx1
import Derived.Test.YtdhmlcnlklcofaaOFnMergeStrangerx2
namespace Go.Proofs.Ytdhmlcnlklcofaa.PFnMergeStranger
open Go.RowKit Go.Proofs.YtdhmlcnlklcofaaW.PrintWords Go.Proofs.YtdhmlcnlklcofaaW.PrintLast Go.Proofs.YtdhmlcnlklcofaaW.PrintMore
attribute [local go_sem] bin_fb_eq bin_fb_neq max2_int min2_int max_two min_two max_three min_three max_four min_four   -- for this text's walks alone
set_option linter.unusedVariables false
set_option linter.unusedSimpArgs false

/-! ### impl_one: function 50 -/
def impl_one.f (a0 : Option Int) : Option (Int) := if a0.isNone = true then (some 0) else (some 1)
theorem impl_one.calls (ev : Value) (a0 : Option Int) (hev : EV a0 ev) (r : Int) (w : World) (h : impl_one.f a0 = some r) :
    Calls Try.prog 50 #[ev] w fun e w' => e = .returned (.int .i64 r) ∧ Drawn0 w w' := by
  have hu70 := Try.underlying70
  cases a0 with
  | none =>
    obtain rfl : ev = .nilIface := hev
    have e : impl_one.f none = some 0 := rfl
    rw [e] at h
    obtain rfl := Option.some.inj h
    clear h e
    go_enter Try.func50, Try.ntmps50
    go_wp2
    go_ret
    exact ⟨by first | rfl | (simp; done) | (simp [*]; done), by repeat (first | exact Drawn0.refl _ | apply Drawn0.step)⟩
  | some c =>
    obtain ⟨t, x, rfl⟩ : ∃ t x, ev = .iface t x := hev
    have e : impl_one.f (some c) = some 1 := rfl
    rw [e] at h
    obtain rfl := Option.some.inj h
    clear h e
    go_enter Try.func50, Try.ntmps50
    go_wp2
    go_ret
    exact ⟨by first | rfl | (simp; done) | (simp [*]; done), by repeat (first | exact Drawn0.refl _ | apply Drawn0.step)⟩

/-! ### impl_Merge: function 34 -/
mutual
def impl_Merge.l0 : Nat → ByteArray → List Int → List Bool → Int → Int → List Int → Int → Option (Int × Int × Int)
  | 0, _, _, _, _, _, _, _ => none
  | k + 1, x0, x1, x2, x3, x4, x13, x14 => if x14 < (x1.length : Int) then (if 0 ≤ x14 then (if x13.length < 17592186044416 then (impl_Merge.l0 k x0 x1 x2 x3 x4 (x13 ++ [rd x1 x14]) (wrap64 (x14 + 1))) else (none)) else (none)) else (impl_Merge.l1 k x0 x2 x3 x4 x13 ([] : List Int) 0)
def impl_Merge.l1 : Nat → ByteArray → List Bool → Int → Int → List Int → List Int → Int → Option (Int × Int × Int)
  | 0, _, _, _, _, _, _, _ => none
  | k + 1, x0, x2, x3, x4, x13, x15, x16 => if x16 < (x2.length : Int) then (if 0 ≤ x16 then (if rdOf false x2 x16 = true then (if x15.length < 17592186044416 then (impl_Merge.l1 k x0 x2 x3 x4 x13 (x15 ++ [1]) (wrap64 (x16 + 1))) else (none)) else (if x15.length < 17592186044416 then (impl_Merge.l1 k x0 x2 x3 x4 x13 (x15 ++ [0]) (wrap64 (x16 + 1))) else (none))) else (none)) else ((effector_NewDefaultEffector.f).bind fun t127 => ((effector_DefaultEffector_MergeEffects.f k t127 x0 x13 x15 x3 x4).bind fun bt128 => ((impl_one.f bt128.2.2).bind fun t131 => (some (bt128.1, bt128.2.1, t131)))))
end
def impl_Merge.f (k : Nat) (a0 : ByteArray) (l1 : List Int) (l2 : List Bool) (a3 : Int) (a4 : Int) : Option (Int × Int × Int) := impl_Merge.l0 k a0 l1 l2 a3 a4 ([] : List Int) 0
theorem impl_Merge.mono_l : ∀ k, (∀ y0 y1 y2 y3 y4 y5 y6, LeO (impl_Merge.l0 k y0 y1 y2 y3 y4 y5 y6) (impl_Merge.l0 (k + 1) y0 y1 y2 y3 y4 y5 y6)) ∧ (∀ y0 y1 y2 y3 y4 y5 y6, LeO (impl_Merge.l1 k y0 y1 y2 y3 y4 y5 y6) (impl_Merge.l1 (k + 1) y0 y1 y2 y3 y4 y5 y6))
  | 0 => ⟨fun _ _ _ _ _ _ _ r h => by simp [impl_Merge.l0] at h, fun _ _ _ _ _ _ _ r h => by simp [impl_Merge.l1] at h⟩
  | k + 1 => by
    obtain ⟨ih0, ih1⟩ := impl_Merge.mono_l k
    refine ⟨?_, ?_⟩
    · intro y0 y1 y2 y3 y4 y5 y6
      unfold impl_Merge.l0
      repeat' first
      | (with_reducible exact ih0 _ _ _ _ _ _ _)
      | (with_reducible exact ih1 _ _ _ _ _ _ _)
      | (with_reducible exact effector_DefaultEffector_MergeEffects.mono _ _ _ _ _ _ _)
      | (with_reducible exact LeO.refl _)
      | (with_reducible exact LeO.none _)
      | (with_reducible refine LeO.ite ?_ ?_)
      | (with_reducible refine LeO.bind ?_ (fun _ => ?_))
      | exact ih0 _ _ _ _ _ _ _
      | exact ih1 _ _ _ _ _ _ _
      | exact effector_DefaultEffector_MergeEffects.mono _ _ _ _ _ _ _
      | exact LeO.none _
      | refine LeO.ite ?_ ?_
      | refine LeO.bind ?_ (fun _ => ?_)
    · intro y0 y1 y2 y3 y4 y5 y6
      unfold impl_Merge.l1
      repeat' first
      | (with_reducible exact ih0 _ _ _ _ _ _ _)
      | (with_reducible exact ih1 _ _ _ _ _ _ _)
      | (with_reducible exact effector_DefaultEffector_MergeEffects.mono _ _ _ _ _ _ _)
      | (with_reducible exact LeO.refl _)
      | (with_reducible exact LeO.none _)
      | (with_reducible refine LeO.ite ?_ ?_)
      | (with_reducible refine LeO.bind ?_ (fun _ => ?_))
      | exact ih0 _ _ _ _ _ _ _
      | exact ih1 _ _ _ _ _ _ _
      | exact effector_DefaultEffector_MergeEffects.mono _ _ _ _ _ _ _
      | exact LeO.none _
      | refine LeO.ite ?_ ?_
      | refine LeO.bind ?_ (fun _ => ?_)
theorem impl_Merge.mono : ∀ a0 a1 a2 a3 a4 k, LeO (impl_Merge.f k a0 a1 a2 a3 a4) (impl_Merge.f (k + 1) a0 a1 a2 a3 a4) := by
  intro a0 a1 a2 a3 a4 k
  obtain ⟨ih0, ih1⟩ := impl_Merge.mono_l k
  unfold impl_Merge.f
  repeat' first
      | (with_reducible exact ih0 _ _ _ _ _ _ _)
      | (with_reducible exact ih1 _ _ _ _ _ _ _)
      | (with_reducible exact effector_DefaultEffector_MergeEffects.mono _ _ _ _ _ _ _)
      | (with_reducible exact LeO.refl _)
      | (with_reducible exact LeO.none _)
      | (with_reducible refine LeO.ite ?_ ?_)
      | (with_reducible refine LeO.bind ?_ (fun _ => ?_))
      | exact ih0 _ _ _ _ _ _ _
      | exact ih1 _ _ _ _ _ _ _
      | exact effector_DefaultEffector_MergeEffects.mono _ _ _ _ _ _ _
      | exact LeO.none _
      | refine LeO.ite ?_ ?_
      | refine LeO.bind ?_ (fun _ => ?_)
set_option maxHeartbeats 8000000 in
set_option maxRecDepth 100000 in
theorem impl_Merge.calls (k : Nat) (a0 : ByteArray) (A1 : Option Addr) (c1 : Nat) (l1 : List Int) (A2 : Option Addr) (c2 : Nat) (l2 : List Bool) (a3 : Int) (a4 : Int) (r1 : Int) (r2 : Int) (r3 : Int) (w : World) (hr1 : Kd.C (Kd.int .i64) w A1 l1.length l1) (hc1 : l1.length ≤ c1) (hr2 : Kd.C Kd.bool w A2 l2.length l2) (hc2 : l2.length ≤ c2) (h : impl_Merge.f k a0 l1 l2 a3 a4 = some (r1, r2, r3)) :
    Calls Try.prog 34 #[.string a0, .slice A1 l1.length c1, .slice A2 l2.length c2, .int .i64 a3, .int .i64 a4] w fun e w' => e = .returned (.tuple #[.int .i64 r1, .int .i64 r2, .int .i64 r3]) ∧ Below w.heap.size w w' := by
  have HR1 := Aside0.mk hr1
  have HC1 := Aside0.mk hc1
  clear hr1 hc1
  have HR2 := Aside0.mk hr2
  have HC2 := Aside0.mk hc2
  clear hr2 hc2
  have HB := Aside0.mk (Below.refl w.heap.size w)
  have H : (impl_Merge.l0 k a0 l1 l2 a3 a4 ([] : List Int) 0) = some (r1, r2, r3) := h
  clear h
  have H' := Aside0.mk H
  clear H
  go_enter Try.func34, Try.ntmps34
  go_wp2
  go_loopg [13, 14] k (fun kq v13 v14 w' => ∃ (x13_1 : List Int) (x14_1 : Int), v14 = .int .i64 x14_1 ∧ Aside0 (impl_Merge.l0 kq a0 l1 l2 a3 a4 x13_1 x14_1 = some (r1, r2, r3)) ∧ Aside0 (kq ≤ k) ∧ Aside0 (Kd.R (Kd.int .i64) 66 w' w.heap.size (fun _ => True) v13 x13_1) ∧ Aside0 (Below w.heap.size w w'))
  case atStart => exact ⟨(([] : List Int)), (0), (by first | rfl | (simp; done) | (simp [*]; done)), H', ⟨Nat.le_refl _⟩, ⟨by first | exact Kd.R_nil _ _ _ _ _ | exact Kd.N_nil _ _ _ _ _ | exact Kd.V_nil _ _ _ _ _ | exact Kd.Q_nil _ _ _ _ _ | exact Kd.S_nil _ _ _ _ _⟩, ⟨by repeat (first | (with_reducible first | exact HB.out | apply below_alloc | apply pw_below_drewN | apply below_drew1) | exact HB.out)⟩⟩
  case round =>
    clear H'
    try clear c1
    try clear c2
    try clear p2
    try clear c3
    obtain ⟨x13_1, x14_1, rfl, HA, HK1, HO_13, HB⟩ := hrel
    cases gk with
    | zero => exact absurd HA.out (by simp [impl_Merge.l0])
    | succ k1 =>
      have H := HA.out
      clear HA
      simp only [impl_Merge.l0] at H
      by_cases c6 : x14_1 < (l1.length : Int)
      · rw [if_pos c6] at H
        have c6b0 : decide (x14_1 < (l1.length : Int)) = true := decide_eq_true c6
        clear c6
        by_cases c7 : 0 ≤ x14_1
        · rw [if_pos c7] at H
          have c7b0 : decide (0 ≤ x14_1) = true := decide_eq_true c7
          clear c7
          by_cases c8 : x13_1.length < 17592186044416
          · rw [if_pos c8] at H
            have LMc8 := Aside0.mk c8
            clear c8
            obtain ⟨y117, hy117⟩ : ∃ y_ : List Int, y_ = (x13_1 ++ [rd l1 x14_1]) := ⟨_, rfl⟩
            replace H : (impl_Merge.l0 k1 a0 l1 l2 a3 a4 y117 (wrap64 (x14_1 + 1))) = some (r1, r2, r3) := by first | (rw [hy117]; with_reducible exact H) | (have H2_ := (Option.bind_some _ _).symm.trans H; rw [hy117]; with_reducible exact H2_) | (have H2_ := (Option.bind_some _ _).symm.trans H; with_reducible exact H2_) | with_reducible exact H | (rw [hy117]; exact H) | exact H
            have Ny117 := Aside0.mk hy117
            clear hy117
            have H' := Aside0.mk H
            clear H
            have p116 : 0 ≤ (x14_1 : Int) := of_decide_eq_true (by first | (with_reducible assumption) | assumption)
            have q116 : x14_1 < (l1.length : Int) := of_decide_eq_true (by first | (with_reducible assumption) | assumption)
            obtain ⟨ad116, e116, hx116_0⟩ := Kd.at_int HR1.out x14_1 p116 q116
            cases e116
            replace hx116_0 := (HB.out.cell (World.block_lt_of_cell? w _ hx116_0)).trans hx116_0
            replace p116 := eq_true p116
            replace q116 := eq_true q116
            go_wp2_with (first | ((with_reducible refine gate_builtin (b := .append) (xs := #[.tmp 26, .tmp 31]) rfl ?_); at_builtin; refine Kd.R_append (Kd.int .i64) (w0 := w) w.heap.size rfl (.tmp 26) (.tmp 31) 65 66 (.int .i64 0) 8 rfl Try.underlying65 info66 rfl (by decide) (by omega) u13 x13_1 (rd l1 x14_1) [.int .i64 (rd l1 x14_1)] (fun _ => True) (fun _ => False) rfl rfl ?aP (fun _ hk => hk.elim) ?aF ?aO ?aB ?aS ?aL ?_; (case aP => exact rfl); (case aB => exact (by repeat (first | (with_reducible first | exact HB.out | apply below_alloc | apply pw_below_drewN | apply below_drew1) | exact HB.out))); (case aF => exact (fun _ _ => trivial)); (case aO => exact (by (with_reducible repeat (first | apply Kd.R_alloc | apply Kd.R_drewN | apply Kd.R_drew)); exact HO_13.out)); (case aS => exact (below_size (by repeat (first | (with_reducible first | exact HB.out | apply below_alloc | apply pw_below_drewN | apply below_drew1) | exact HB.out)))); (case aL => have := LMc8.out; omega); intro v118 w9 ho hb hg hat; rw [← Ny117.out] at ho; have n0_ := Aside0.mk (hb); have n1_ := Aside0.mk (ho); clear HB; clear HO_13; have HB := n0_; have HO119 := n1_; clear n0_ n1_; clear ho hb hg hat))
            go_roundg k1
            case measure => have := HK1.out; omega
            case rel => exact ⟨(y117), (wrap64 (x14_1 + 1)), (by first | rfl | (simp; done) | (simp [*]; done)), H', ⟨by have := HK1.out; omega⟩, ⟨by (with_reducible repeat (first | apply Kd.R_alloc | apply Kd.R_drewN | apply Kd.R_drew)); exact HO119.out⟩, ⟨by repeat (first | (with_reducible first | exact HB.out | apply below_alloc | apply pw_below_drewN | apply below_drew1) | exact HB.out)⟩⟩
          · rw [if_neg c8] at H
            exact absurd H (by simp)
        · rw [if_neg c7] at H
          exact absurd H (by simp)
      · rw [if_neg c6] at H
        have c6b0 : decide (x14_1 < (l1.length : Int)) = false := decide_eq_false c6
        clear c6
        have H' := Aside0.mk H
        clear H
        go_wp2
        go_loopg [15, 16] k1 (fun kq v15 v16 w' => ∃ (x15_2 : List Int) (x16_2 : Int), v16 = .int .i64 x16_2 ∧ Aside0 (impl_Merge.l1 kq a0 l2 a3 a4 x13_1 x15_2 x16_2 = some (r1, r2, r3)) ∧ Aside0 (kq ≤ k1) ∧ Aside0 (Kd.R (Kd.int .i64) 66 w' w.heap.size (fun _ => True) u13 x13_1) ∧ Aside0 (Kd.R Kd_flt 68 w' w.heap.size (fun _ => True) v15 x15_2) ∧ Aside0 (Below w.heap.size w w'))
        case atStart => exact ⟨(([] : List Int)), (0), (by first | rfl | (simp; done) | (simp [*]; done)), H', ⟨Nat.le_refl _⟩, ⟨by (with_reducible repeat (first | apply Kd.R_alloc | apply Kd.R_drewN | apply Kd.R_drew)); exact HO_13.out⟩, ⟨by first | exact Kd.R_nil _ _ _ _ _ | exact Kd.N_nil _ _ _ _ _ | exact Kd.V_nil _ _ _ _ _ | exact Kd.Q_nil _ _ _ _ _ | exact Kd.S_nil _ _ _ _ _⟩, ⟨by repeat (first | (with_reducible first | exact HB.out | apply below_alloc | apply pw_below_drewN | apply below_drew1) | exact HB.out)⟩⟩
        case round =>
          clear H'
          try clear c1
          try clear p1
          try clear q1
          try clear hx1
          try clear c2
          try clear p2
          try clear c3
          try clear c6
          try clear c6b0
          try clear p6
          try clear c7
          try clear c7b0
          try clear c8
          try clear hx116_0
          try clear p116
          try clear p2
          try clear q116
          obtain ⟨x15_2, x16_2, rfl, HA, HK2, HO_13, HO_15, HB⟩ := hrel
          cases gk with
          | zero => exact absurd HA.out (by simp [impl_Merge.l1])
          | succ k2 =>
            have H := HA.out
            clear HA
            simp only [impl_Merge.l1] at H
            by_cases c10 : x16_2 < (l2.length : Int)
            · rw [if_pos c10] at H
              have c10b0 : decide (x16_2 < (l2.length : Int)) = true := decide_eq_true c10
              clear c10
              by_cases c11 : 0 ≤ x16_2
              · rw [if_pos c11] at H
                have c11b0 : decide (0 ≤ x16_2) = true := decide_eq_true c11
                clear c11
                obtain ⟨bq12, hbq12⟩ : ∃ b_ : Bool, b_ = (rdOf false l2 x16_2) := ⟨_, rfl⟩
                replace H : (if bq12 = true then (if x15_2.length < 17592186044416 then (impl_Merge.l1 k2 a0 l2 a3 a4 x13_1 (x15_2 ++ [1]) (wrap64 (x16_2 + 1))) else (none)) else (if x15_2.length < 17592186044416 then (impl_Merge.l1 k2 a0 l2 a3 a4 x13_1 (x15_2 ++ [0]) (wrap64 (x16_2 + 1))) else (none))) = some (r1, r2, r3) := by rw [← hbq12] at H; exact H
                have Nbq12 := Aside0.mk hbq12
                clear hbq12
                by_cases c13 : bq12 = true
                · subst c13
                  have H1 : (if x15_2.length < 17592186044416 then (impl_Merge.l1 k2 a0 l2 a3 a4 x13_1 (x15_2 ++ [1]) (wrap64 (x16_2 + 1))) else (none)) = some (r1, r2, r3) := by rw [if_pos rfl] at H; exact H
                  clear H
                  have H := H1
                  clear H1
                  by_cases c14 : x15_2.length < 17592186044416
                  · rw [if_pos c14] at H
                    have LMc14 := Aside0.mk c14
                    clear c14
                    obtain ⟨y121, hy121⟩ : ∃ y_ : List Int, y_ = (x15_2 ++ [1]) := ⟨_, rfl⟩
                    replace H : (impl_Merge.l1 k2 a0 l2 a3 a4 x13_1 y121 (wrap64 (x16_2 + 1))) = some (r1, r2, r3) := by first | (rw [hy121]; with_reducible exact H) | (have H2_ := (Option.bind_some _ _).symm.trans H; rw [hy121]; with_reducible exact H2_) | (have H2_ := (Option.bind_some _ _).symm.trans H; with_reducible exact H2_) | with_reducible exact H | (rw [hy121]; exact H) | exact H
                    have Ny121 := Aside0.mk hy121
                    clear hy121
                    have H' := Aside0.mk H
                    clear H
                    have p120 : 0 ≤ (x16_2 : Int) := of_decide_eq_true (by first | (with_reducible assumption) | assumption)
                    have q120 : x16_2 < (l2.length : Int) := of_decide_eq_true (by first | (with_reducible assumption) | assumption)
                    obtain ⟨ad120, e120, hx120_0⟩ := Kd.at_bool HR2.out x16_2 p120 q120
                    (try rw [← Nbq12.out] at hx120_0)
                    cases e120
                    replace hx120_0 := (HB.out.cell (World.block_lt_of_cell? w _ hx120_0)).trans hx120_0
                    replace p120 := eq_true p120
                    replace q120 := eq_true q120
                    go_wp2_with (first | ((with_reducible refine gate_builtin (b := .append) (xs := #[.tmp 43, .tmp 45]) rfl ?_); at_builtin; refine Kd.R_append Kd_flt (w0 := w) w.heap.size rfl (.tmp 43) (.tmp 45) 67 68 (.float .f64 (fb 0)) 8 rfl Try.underlying67 info68 rfl (by decide) (by omega) u15 x15_2 1 [.float .f64 (fb 1)] (fun _ => True) (fun _ => False) rfl rfl ?aP (fun _ hk => hk.elim) ?aF ?aO ?aB ?aS ?aL ?_; (case aP => exact rfl); (case aB => exact (by repeat (first | (with_reducible first | exact HB.out | apply below_alloc | apply pw_below_drewN | apply below_drew1) | exact HB.out))); (case aF => exact (fun _ _ => trivial)); (case aO => exact (by (with_reducible repeat (first | apply Kd.R_alloc | apply Kd.R_drewN | apply Kd.R_drew)); exact HO_15.out)); (case aS => exact (below_size (by repeat (first | (with_reducible first | exact HB.out | apply below_alloc | apply pw_below_drewN | apply below_drew1) | exact HB.out)))); (case aL => have := LMc14.out; omega); intro v122 w15 ho hb hg hat; rw [← Ny121.out] at ho; have n0_ := Aside0.mk (Kd.R_over' (by (with_reducible repeat (first | apply Kd.R_alloc | apply Kd.R_drewN | apply Kd.R_drew)); exact HO_13.out) (Kd.R_typed (by (with_reducible repeat (first | apply Kd.R_alloc | apply Kd.R_drewN | apply Kd.R_drew)); exact HO_15.out)) (by decide) hg); have n1_ := Aside0.mk (hb); have n2_ := Aside0.mk (ho); clear HO_13; clear HB; clear HO_15; have HO_13 := n0_; have HB := n1_; have HO123 := n2_; clear n0_ n1_ n2_; clear ho hb hg hat))
                    go_roundg k2
                    case measure => have := HK1.out; have := HK2.out; omega
                    case rel => exact ⟨(y121), (wrap64 (x16_2 + 1)), (by first | rfl | (simp; done) | (simp [*]; done)), H', ⟨by have := HK1.out; have := HK2.out; omega⟩, ⟨by (with_reducible repeat (first | apply Kd.R_alloc | apply Kd.R_drewN | apply Kd.R_drew)); exact HO_13.out⟩, ⟨by (with_reducible repeat (first | apply Kd.R_alloc | apply Kd.R_drewN | apply Kd.R_drew)); exact HO123.out⟩, ⟨by repeat (first | (with_reducible first | exact HB.out | apply below_alloc | apply pw_below_drewN | apply below_drew1) | exact HB.out)⟩⟩
                  · rw [if_neg c14] at H
                    exact absurd H (by simp)
                · replace c13 := Bool.eq_false_iff.mpr c13
                  subst c13
                  have H1 : (if x15_2.length < 17592186044416 then (impl_Merge.l1 k2 a0 l2 a3 a4 x13_1 (x15_2 ++ [0]) (wrap64 (x16_2 + 1))) else (none)) = some (r1, r2, r3) := by rw [if_neg (show ¬ (false = true) by decide)] at H; exact H
                  clear H
                  have H := H1
                  clear H1
                  by_cases c16 : x15_2.length < 17592186044416
                  · rw [if_pos c16] at H
                    have LMc16 := Aside0.mk c16
                    clear c16
                    obtain ⟨y124, hy124⟩ : ∃ y_ : List Int, y_ = (x15_2 ++ [0]) := ⟨_, rfl⟩
                    replace H : (impl_Merge.l1 k2 a0 l2 a3 a4 x13_1 y124 (wrap64 (x16_2 + 1))) = some (r1, r2, r3) := by first | (rw [hy124]; with_reducible exact H) | (have H2_ := (Option.bind_some _ _).symm.trans H; rw [hy124]; with_reducible exact H2_) | (have H2_ := (Option.bind_some _ _).symm.trans H; with_reducible exact H2_) | with_reducible exact H | (rw [hy124]; exact H) | exact H
                    have Ny124 := Aside0.mk hy124
                    clear hy124
                    have H' := Aside0.mk H
                    clear H
                    have p120 : 0 ≤ (x16_2 : Int) := of_decide_eq_true (by first | (with_reducible assumption) | assumption)
                    have q120 : x16_2 < (l2.length : Int) := of_decide_eq_true (by first | (with_reducible assumption) | assumption)
                    obtain ⟨ad120, e120, hx120_0⟩ := Kd.at_bool HR2.out x16_2 p120 q120
                    (try rw [← Nbq12.out] at hx120_0)
                    cases e120
                    replace hx120_0 := (HB.out.cell (World.block_lt_of_cell? w _ hx120_0)).trans hx120_0
                    replace p120 := eq_true p120
                    replace q120 := eq_true q120
                    go_wp2_with (first | ((with_reducible refine gate_builtin (b := .append) (xs := #[.tmp 43, .tmp 45]) rfl ?_); at_builtin; refine Kd.R_append Kd_flt (w0 := w) w.heap.size rfl (.tmp 43) (.tmp 45) 67 68 (.float .f64 (fb 0)) 8 rfl Try.underlying67 info68 rfl (by decide) (by omega) u15 x15_2 0 [.float .f64 (fb 0)] (fun _ => True) (fun _ => False) rfl rfl ?aP (fun _ hk => hk.elim) ?aF ?aO ?aB ?aS ?aL ?_; (case aP => exact rfl); (case aB => exact (by repeat (first | (with_reducible first | exact HB.out | apply below_alloc | apply pw_below_drewN | apply below_drew1) | exact HB.out))); (case aF => exact (fun _ _ => trivial)); (case aO => exact (by (with_reducible repeat (first | apply Kd.R_alloc | apply Kd.R_drewN | apply Kd.R_drew)); exact HO_15.out)); (case aS => exact (below_size (by repeat (first | (with_reducible first | exact HB.out | apply below_alloc | apply pw_below_drewN | apply below_drew1) | exact HB.out)))); (case aL => have := LMc16.out; omega); intro v125 w17 ho hb hg hat; rw [← Ny124.out] at ho; have n0_ := Aside0.mk (Kd.R_over' (by (with_reducible repeat (first | apply Kd.R_alloc | apply Kd.R_drewN | apply Kd.R_drew)); exact HO_13.out) (Kd.R_typed (by (with_reducible repeat (first | apply Kd.R_alloc | apply Kd.R_drewN | apply Kd.R_drew)); exact HO_15.out)) (by decide) hg); have n1_ := Aside0.mk (hb); have n2_ := Aside0.mk (ho); clear HO_13; clear HB; clear HO_15; have HO_13 := n0_; have HB := n1_; have HO126 := n2_; clear n0_ n1_ n2_; clear ho hb hg hat))
                    go_roundg k2
                    case measure => have := HK1.out; have := HK2.out; omega
                    case rel => exact ⟨(y124), (wrap64 (x16_2 + 1)), (by first | rfl | (simp; done) | (simp [*]; done)), H', ⟨by have := HK1.out; have := HK2.out; omega⟩, ⟨by (with_reducible repeat (first | apply Kd.R_alloc | apply Kd.R_drewN | apply Kd.R_drew)); exact HO_13.out⟩, ⟨by (with_reducible repeat (first | apply Kd.R_alloc | apply Kd.R_drewN | apply Kd.R_drew)); exact HO126.out⟩, ⟨by repeat (first | (with_reducible first | exact HB.out | apply below_alloc | apply pw_below_drewN | apply below_drew1) | exact HB.out)⟩⟩
                  · rw [if_neg c16] at H
                    exact absurd H (by simp)
              · rw [if_neg c11] at H
                exact absurd H (by simp)
            · rw [if_neg c10] at H
              have c10b0 : decide (x16_2 < (l2.length : Int)) = false := decide_eq_false c10
              clear c10
              replace H := Option.bind_eq_some_iff.mp H
              obtain ⟨t127, A180, H⟩ := H
              replace H : ((effector_DefaultEffector_MergeEffects.f k2 t127 a0 x13_1 x15_2 a3 a4).bind fun bt128 => ((impl_one.f bt128.2.2).bind fun t131 => (some (bt128.1, bt128.2.1, t131)))) = some (r1, r2, r3) := H
              have A18 := Aside0.mk A180
              clear A180
              replace H := Option.bind_eq_some_iff.mp H
              obtain ⟨⟨t128, t129, t130⟩, A190, H⟩ := H
              replace H : ((impl_one.f t130).bind fun t131 => (some (t128, t129, t131))) = some (r1, r2, r3) := H
              have A19 := Aside0.mk A190
              clear A190
              replace H := Option.bind_eq_some_iff.mp H
              obtain ⟨t131, A200, H⟩ := H
              replace H : (some (t128, t129, t131)) = some (r1, r2, r3) := H
              have A20 := Aside0.mk A200
              clear A200
              simp only [Option.some.injEq, Prod.mk.injEq] at H
              obtain ⟨rfl, rfl, rfl⟩ := H
              go_wp2_with (first | ((with_reducible refine gate_callee (f := 48) rfl ?_); refine goesL_ (some 48) rfl rfl Try.func48 (by kernel_rfl) rfl #[] rfl (by (try simp only [List.map_toArray, List.map_cons, List.map_nil]); first | done | rfl | (simp only [List.length_drop, List.length_take]; rfl)) ?_; (with_reducible refine (effector_NewDefaultEffector.calls  t127 _ A18.out).mono ?_); rintro e w21 ⟨⟨pa, rfl⟩, hb⟩; refine ⟨_, rfl, ?_⟩; have n0_ := Aside0.mk (Kd.R_below (by (with_reducible repeat (first | apply Kd.R_alloc | apply Kd.R_drewN | apply Kd.R_drew)); exact HO_13.out) hb); have n1_ := Aside0.mk (Kd.R_below (by (with_reducible repeat (first | apply Kd.R_alloc | apply Kd.R_drewN | apply Kd.R_drew)); exact HO_15.out) hb); have n2_ := Aside0.mk (below_step (by repeat (first | (with_reducible first | exact HB.out | apply below_alloc | apply pw_below_drewN | apply below_drew1) | exact HB.out)) hb); clear HO_13; clear HO_15; clear HB; have HO_13 := n0_; have HO_15 := n1_; have HB := n2_; clear n0_ n1_ n2_; (try clear hb); (try clear hb2); (try clear hk); (try clear hi); obtain ⟨Ao22, co22, eo22⟩ := Kd.R_slice HO_13.out; subst eo22; obtain ⟨Ao23, co23, eo23⟩ := Kd.R_slice HO_15.out; subst eo23) | ((with_reducible refine gate_callee (f := 49) rfl ?_); refine goesL_ (some 54) rfl rfl Try.func49 (by kernel_rfl) rfl #[.pointer pa, .string a0, .slice Ao22 x13_1.length co22, .slice Ao23 x15_2.length co23, .int .i64 a3, .int .i64 a4] rfl (by (try simp only [List.map_toArray, List.map_cons, List.map_nil]); first | done | rfl | (simp only [List.length_drop, List.length_take]; rfl)) ?_; (with_reducible refine (effector_DefaultEffector_MergeEffects.calls pa k2 t127 a0 _ _ x13_1 _ _ x15_2 a3 a4 t128 t129 t130 _ ?side1 ?side2 ?side3 ?side4 A19.out).mono ?_); (case side1 => repeat (first | exact (Kd.R_reads' HO_13.out).2.2 | (with_reducible refine Kd.C_alloc ?_ _) | (with_reducible refine Kd.C_drewN ?_ _) | (with_reducible refine Kd.C_drew ?_))); (case side2 => exact (Kd.R_reads' HO_13.out).2.1); (case side3 => repeat (first | exact (Kd.R_reads' HO_15.out).2.2 | (with_reducible refine Kd.C_alloc ?_ _) | (with_reducible refine Kd.C_drewN ?_ _) | (with_reducible refine Kd.C_drew ?_))); (case side4 => exact (Kd.R_reads' HO_15.out).2.1); rintro e w24 ⟨⟨ev_, hev_, rfl⟩, hb⟩; refine ⟨_, rfl, ?_⟩; have n0_ := Aside0.mk (Kd.R_below (by (with_reducible repeat (first | apply Kd.R_alloc | apply Kd.R_drewN | apply Kd.R_drew)); exact HO_13.out) hb); have n1_ := Aside0.mk (Kd.R_below (by (with_reducible repeat (first | apply Kd.R_alloc | apply Kd.R_drewN | apply Kd.R_drew)); exact HO_15.out) hb); have n2_ := Aside0.mk (below_step (by repeat (first | (with_reducible first | exact HB.out | apply below_alloc | apply pw_below_drewN | apply below_drew1) | exact HB.out)) hb); clear HO_13; clear HO_15; clear HB; have HO_13 := n0_; have HO_15 := n1_; have HB := n2_; clear n0_ n1_ n2_; (try clear hb); (try clear hb2); (try clear hk); (try clear hi); (try simp only [errW_none, errW_some]); have CA20 := fun W => impl_one.calls ev_ t130 hev_ t131 W A20.out; try simp only [errW_none, errW_some] at CA20) | (go_at_call 50; (with_reducible refine (CA20 _).mono ?_); rintro e w' ⟨rfl, ⟨nd, rfl⟩⟩))
              go_ret3
              exact ⟨by first | rfl | (simp [errW_none, errW_some] <;> rfl) | (simp [*, errW_none, errW_some] <;> rfl), by repeat (first | (with_reducible first | exact HB.out | apply below_alloc | apply pw_below_drewN | apply below_drew1) | exact HB.out)⟩

/-! ### laws_awakeMerge: function 29 -/
def laws_awakeMerge.f (k : Nat)  : Option (Bool) := (impl_Merge.f k (⟨#[115, 111, 109, 101, 40, 119, 104, 101, 114, 101, 32, 40, 112, 95, 101, 102, 116, 32, 61, 61, 32, 97, 108, 108, 111, 119, 41, 41]⟩ : ByteArray) (([0] : List Int)) (([true] : List Bool)) 0 1).bind fun bt138 => ((impl_Merge.f k (⟨#[33, 115, 111, 109, 101, 40, 119, 104, 101, 114, 101, 32, 40, 112, 95, 101, 102, 116, 32, 61, 61, 32, 100, 101, 110, 121, 41, 41]⟩ : ByteArray) (([2] : List Int)) (([true] : List Bool)) 0 1).bind fun bt147 => (if bt138.1 = 0 then (if bt138.2.1 = 0 then (if bt138.2.2 = 0 then (if bt147.1 = 2 then (some (bt147.2.2 == 0)) else (some false)) else (some false)) else (some false)) else (some false)))
theorem laws_awakeMerge.mono : ∀ k, LeO (laws_awakeMerge.f k ) (laws_awakeMerge.f (k + 1) ) := by
  intro  k
  unfold laws_awakeMerge.f
  repeat' first
      | (with_reducible exact impl_Merge.mono _ _ _ _ _ _)
      | (with_reducible exact LeO.refl _)
      | (with_reducible exact LeO.none _)
      | (with_reducible refine LeO.ite ?_ ?_)
      | (with_reducible refine LeO.bind ?_ (fun _ => ?_))
      | exact impl_Merge.mono _ _ _ _ _ _
      | exact LeO.none _
      | refine LeO.ite ?_ ?_
      | refine LeO.bind ?_ (fun _ => ?_)
set_option maxHeartbeats 8000000 in
set_option maxRecDepth 100000 in
theorem laws_awakeMerge.calls (k : Nat)  (r : Bool) (w : World) (h : laws_awakeMerge.f k  = some r) :
    Calls Try.prog 29 #[] w fun e w' => e = .returned (.bool r) ∧ Below w.heap.size w w' := by
  have HB := Aside0.mk (Below.refl w.heap.size w)
  have H : ((impl_Merge.f k (⟨#[115, 111, 109, 101, 40, 119, 104, 101, 114, 101, 32, 40, 112, 95, 101, 102, 116, 32, 61, 61, 32, 97, 108, 108, 111, 119, 41, 41]⟩ : ByteArray) (([0] : List Int)) (([true] : List Bool)) 0 1).bind fun bt138 => ((impl_Merge.f k (⟨#[33, 115, 111, 109, 101, 40, 119, 104, 101, 114, 101, 32, 40, 112, 95, 101, 102, 116, 32, 61, 61, 32, 100, 101, 110, 121, 41, 41]⟩ : ByteArray) (([2] : List Int)) (([true] : List Bool)) 0 1).bind fun bt147 => (if bt138.1 = 0 then (if bt138.2.1 = 0 then (if bt138.2.2 = 0 then (if bt147.1 = 2 then (some (bt147.2.2 == 0)) else (some false)) else (some false)) else (some false)) else (some false)))) = some r := h
  clear h
  obtain ⟨y132, hy132⟩ : ∃ y_ : List Int, y_ = (([0] : List Int)) := ⟨_, rfl⟩
  replace H : ((impl_Merge.f k (⟨#[115, 111, 109, 101, 40, 119, 104, 101, 114, 101, 32, 40, 112, 95, 101, 102, 116, 32, 61, 61, 32, 97, 108, 108, 111, 119, 41, 41]⟩ : ByteArray) y132 (([true] : List Bool)) 0 1).bind fun bt138 => ((impl_Merge.f k (⟨#[33, 115, 111, 109, 101, 40, 119, 104, 101, 114, 101, 32, 40, 112, 95, 101, 102, 116, 32, 61, 61, 32, 100, 101, 110, 121, 41, 41]⟩ : ByteArray) (([2] : List Int)) (([true] : List Bool)) 0 1).bind fun bt147 => (if bt138.1 = 0 then (if bt138.2.1 = 0 then (if bt138.2.2 = 0 then (if bt147.1 = 2 then (some (bt147.2.2 == 0)) else (some false)) else (some false)) else (some false)) else (some false)))) = some r := by first | (rw [hy132]; with_reducible exact H) | (have H2_ := (Option.bind_some _ _).symm.trans H; rw [hy132]; with_reducible exact H2_) | (have H2_ := (Option.bind_some _ _).symm.trans H; with_reducible exact H2_) | with_reducible exact H | (rw [hy132]; exact H) | exact H
  have Ny132 := Aside0.mk hy132
  clear hy132
  obtain ⟨y135, hy135⟩ : ∃ y_ : List Bool, y_ = (([true] : List Bool)) := ⟨_, rfl⟩
  replace H : ((impl_Merge.f k (⟨#[115, 111, 109, 101, 40, 119, 104, 101, 114, 101, 32, 40, 112, 95, 101, 102, 116, 32, 61, 61, 32, 97, 108, 108, 111, 119, 41, 41]⟩ : ByteArray) y132 y135 0 1).bind fun bt138 => ((impl_Merge.f k (⟨#[33, 115, 111, 109, 101, 40, 119, 104, 101, 114, 101, 32, 40, 112, 95, 101, 102, 116, 32, 61, 61, 32, 100, 101, 110, 121, 41, 41]⟩ : ByteArray) (([2] : List Int)) (([true] : List Bool)) 0 1).bind fun bt147 => (if bt138.1 = 0 then (if bt138.2.1 = 0 then (if bt138.2.2 = 0 then (if bt147.1 = 2 then (some (bt147.2.2 == 0)) else (some false)) else (some false)) else (some false)) else (some false)))) = some r := by first | (rw [hy135]; with_reducible exact H) | (have H2_ := (Option.bind_some _ _).symm.trans H; rw [hy135]; with_reducible exact H2_) | (have H2_ := (Option.bind_some _ _).symm.trans H; with_reducible exact H2_) | with_reducible exact H | (rw [hy135]; exact H) | exact H
  have Ny135 := Aside0.mk hy135
  clear hy135
  replace H := Option.bind_eq_some_iff.mp H
  obtain ⟨⟨t138, t139, t140⟩, A10, H⟩ := H
  replace H : ((impl_Merge.f k (⟨#[33, 115, 111, 109, 101, 40, 119, 104, 101, 114, 101, 32, 40, 112, 95, 101, 102, 116, 32, 61, 61, 32, 100, 101, 110, 121, 41, 41]⟩ : ByteArray) (([2] : List Int)) (([true] : List Bool)) 0 1).bind fun bt147 => (if t138 = 0 then (if t139 = 0 then (if t140 = 0 then (if bt147.1 = 2 then (some (bt147.2.2 == 0)) else (some false)) else (some false)) else (some false)) else (some false))) = some r := H
  have A1 := Aside0.mk A10
  clear A10
  obtain ⟨y141, hy141⟩ : ∃ y_ : List Int, y_ = (([2] : List Int)) := ⟨_, rfl⟩
  replace H : ((impl_Merge.f k (⟨#[33, 115, 111, 109, 101, 40, 119, 104, 101, 114, 101, 32, 40, 112, 95, 101, 102, 116, 32, 61, 61, 32, 100, 101, 110, 121, 41, 41]⟩ : ByteArray) y141 (([true] : List Bool)) 0 1).bind fun bt147 => (if t138 = 0 then (if t139 = 0 then (if t140 = 0 then (if bt147.1 = 2 then (some (bt147.2.2 == 0)) else (some false)) else (some false)) else (some false)) else (some false))) = some r := by first | (rw [hy141]; with_reducible exact H) | (have H2_ := (Option.bind_some _ _).symm.trans H; rw [hy141]; with_reducible exact H2_) | (have H2_ := (Option.bind_some _ _).symm.trans H; with_reducible exact H2_) | with_reducible exact H | (rw [hy141]; exact H) | exact H
  have Ny141 := Aside0.mk hy141
  clear hy141
  obtain ⟨y144, hy144⟩ : ∃ y_ : List Bool, y_ = (([true] : List Bool)) := ⟨_, rfl⟩
  replace H : ((impl_Merge.f k (⟨#[33, 115, 111, 109, 101, 40, 119, 104, 101, 114, 101, 32, 40, 112, 95, 101, 102, 116, 32, 61, 61, 32, 100, 101, 110, 121, 41, 41]⟩ : ByteArray) y141 y144 0 1).bind fun bt147 => (if t138 = 0 then (if t139 = 0 then (if t140 = 0 then (if bt147.1 = 2 then (some (bt147.2.2 == 0)) else (some false)) else (some false)) else (some false)) else (some false))) = some r := by first | (rw [hy144]; with_reducible exact H) | (have H2_ := (Option.bind_some _ _).symm.trans H; rw [hy144]; with_reducible exact H2_) | (have H2_ := (Option.bind_some _ _).symm.trans H; with_reducible exact H2_) | with_reducible exact H | (rw [hy144]; exact H) | exact H
  have Ny144 := Aside0.mk hy144
  clear hy144
  replace H := Option.bind_eq_some_iff.mp H
  obtain ⟨⟨t147, t148, t149⟩, A20, H⟩ := H
  replace H : (if t138 = 0 then (if t139 = 0 then (if t140 = 0 then (if t147 = 2 then (some (t149 == 0)) else (some false)) else (some false)) else (some false)) else (some false)) = some r := H
  have A2 := Aside0.mk A20
  clear A20
  by_cases c3 : t138 = 0
  · rw [if_pos c3] at H
    have c3b0 : (t138 == 0) = true := beq_iff_eq.mpr c3
    have c3b1 : (t138 != 0) = false := bne_eq_false_iff_eq.mpr c3
    clear c3
    by_cases c4 : t139 = 0
    · rw [if_pos c4] at H
      have c4b0 : (t139 == 0) = true := beq_iff_eq.mpr c4
      have c4b1 : (t139 != 0) = false := bne_eq_false_iff_eq.mpr c4
      clear c4
      by_cases c5 : t140 = 0
      · rw [if_pos c5] at H
        have c5b0 : (t140 == 0) = true := beq_iff_eq.mpr c5
        have c5b1 : (t140 != 0) = false := bne_eq_false_iff_eq.mpr c5
        clear c5
        by_cases c6 : t147 = 2
        · rw [if_pos c6] at H
          have c6b0 : (t147 == 2) = true := beq_iff_eq.mpr c6
          have c6b1 : (t147 != 2) = false := bne_eq_false_iff_eq.mpr c6
          clear c6
          obtain rfl := Option.some.inj H
          go_enter Try.func29, Try.ntmps29
          go_wp2_with (first | ((with_reducible refine gate_dst (N := 8) rfl ?_); refine Kd.R_lit (Kd.int .i64) _ 3 ?hg (N := 8) ?hd (xs := ([0] : List Int)) (inner := [.int .i64 0]) (ok := fun _ => True) (okp := fun _ => True) ?hr ?hp (fun _ hk => hk) trivial (Below.refl _ _) (Nat.le_refl _) (by simp) ?_; (case hd => rfl); (case hg => rfl); (case hr => first | (go_simp; done) | (go_simp; rfl)); (case hp => exact (Reps.one (show Kd.M (Kd.int .i64) _ _ _ 0 [.int .i64 0] from rfl) (Reps.none _ _))); intro v133 w7 ho8 hb hg_ hnew_; clear hg_ hnew_; (first | rw [← Ny132.out] at ho8 | (simp only [Int.reduceToNat] at ho8; rw [← Ny132.out] at ho8)); have n0_ := Aside0.mk (Kd.R_lower ho8 (below_size (by repeat (first | (with_reducible first | exact HB.out | apply below_alloc | apply pw_below_drewN | apply below_drew1) | exact HB.out)))); have n1_ := Aside0.mk (below_step (by repeat (first | (with_reducible first | exact HB.out | apply below_alloc | apply pw_below_drewN | apply below_drew1) | exact HB.out)) hb); clear HB; have HO134 := n0_; have HB := n1_; clear n0_ n1_; clear hb ho8) | ((with_reducible refine gate_dst (N := 9) rfl ?_); refine Kd.R_lit Kd.bool _ 4 ?hg (N := 9) ?hd (xs := ([true] : List Bool)) (inner := [.bool true]) (ok := fun _ => True) (okp := fun _ => True) ?hr ?hp (fun _ hk => hk) trivial (Below.refl _ _) (Nat.le_refl _) (by simp) ?_; (case hd => rfl); (case hg => rfl); (case hr => first | (go_simp; done) | (go_simp; rfl)); (case hp => exact (Reps.one (show Kd.M Kd.bool _ _ _ true [.bool true] from rfl) (Reps.none _ _))); intro v136 w9 ho10 hb hg_ hnew_; clear hg_ hnew_; (first | rw [← Ny135.out] at ho10 | (simp only [Int.reduceToNat] at ho10; rw [← Ny135.out] at ho10)); have n0_ := Aside0.mk (Kd.R_below (by (with_reducible repeat (first | apply Kd.R_alloc | apply Kd.R_drewN | apply Kd.R_drew)); exact HO134.out) hb); have n1_ := Aside0.mk (Kd.R_lower ho10 (below_size (by repeat (first | (with_reducible first | exact HB.out | apply below_alloc | apply pw_below_drewN | apply below_drew1) | exact HB.out)))); have n2_ := Aside0.mk (below_step (by repeat (first | (with_reducible first | exact HB.out | apply below_alloc | apply pw_below_drewN | apply below_drew1) | exact HB.out)) hb); clear HO134; clear HB; have HO134 := n0_; have HO137 := n1_; have HB := n2_; clear n0_ n1_ n2_; clear hb ho10; obtain ⟨Ao11, co11, eo11⟩ := Kd.R_slice HO134.out; subst eo11; obtain ⟨Ao12, co12, eo12⟩ := Kd.R_slice HO137.out; subst eo12) | ((with_reducible refine gate_callee (f := 34) rfl ?_); refine goesL_ (some 10) rfl rfl Try.func34 (by kernel_rfl) rfl #[.string (⟨#[115, 111, 109, 101, 40, 119, 104, 101, 114, 101, 32, 40, 112, 95, 101, 102, 116, 32, 61, 61, 32, 97, 108, 108, 111, 119, 41, 41]⟩ : ByteArray), .slice Ao11 y132.length co11, .slice Ao12 y135.length co12, .int .i64 0, .int .i64 1] rfl (by (try simp only [List.map_toArray, List.map_cons, List.map_nil]); first | done | rfl | (simp only [List.length_drop, List.length_take]; rfl)) ?_; (with_reducible refine (impl_Merge.calls k (⟨#[115, 111, 109, 101, 40, 119, 104, 101, 114, 101, 32, 40, 112, 95, 101, 102, 116, 32, 61, 61, 32, 97, 108, 108, 111, 119, 41, 41]⟩ : ByteArray) _ _ y132 _ _ y135 0 1 t138 t139 t140 _ ?side1 ?side2 ?side3 ?side4 A1.out).mono ?_); (case side1 => repeat (first | exact (Kd.R_reads' HO134.out).2.2 | (with_reducible refine Kd.C_alloc ?_ _) | (with_reducible refine Kd.C_drewN ?_ _) | (with_reducible refine Kd.C_drew ?_))); (case side2 => exact (Kd.R_reads' HO134.out).2.1); (case side3 => repeat (first | exact (Kd.R_reads' HO137.out).2.2 | (with_reducible refine Kd.C_alloc ?_ _) | (with_reducible refine Kd.C_drewN ?_ _) | (with_reducible refine Kd.C_drew ?_))); (case side4 => exact (Kd.R_reads' HO137.out).2.1); rintro e w13 ⟨rfl, hb⟩; refine ⟨_, rfl, ?_⟩; have n0_ := Aside0.mk (Kd.R_below (by (with_reducible repeat (first | apply Kd.R_alloc | apply Kd.R_drewN | apply Kd.R_drew)); exact HO134.out) hb); have n1_ := Aside0.mk (Kd.R_below (by (with_reducible repeat (first | apply Kd.R_alloc | apply Kd.R_drewN | apply Kd.R_drew)); exact HO137.out) hb); have n2_ := Aside0.mk (below_step (by repeat (first | (with_reducible first | exact HB.out | apply below_alloc | apply pw_below_drewN | apply below_drew1) | exact HB.out)) hb); clear HO134; clear HO137; clear HB; have HO134 := n0_; have HO137 := n1_; have HB := n2_; clear n0_ n1_ n2_; (try clear hb); (try clear hb2); (try clear hk); (try clear hi)) | ((with_reducible refine gate_dst (N := 15) rfl ?_); refine Kd.R_lit (Kd.int .i64) _ 3 ?hg (N := 15) ?hd (xs := ([2] : List Int)) (inner := [.int .i64 2]) (ok := fun _ => True) (okp := fun _ => True) ?hr ?hp (fun _ hk => hk) trivial (Below.refl _ _) (Nat.le_refl _) (by simp) ?_; (case hd => rfl); (case hg => rfl); (case hr => first | (go_simp; done) | (go_simp; rfl)); (case hp => exact (Reps.one (show Kd.M (Kd.int .i64) _ _ _ 2 [.int .i64 2] from rfl) (Reps.none _ _))); intro v142 w14 ho15 hb hg_ hnew_; clear hg_ hnew_; (first | rw [← Ny141.out] at ho15 | (simp only [Int.reduceToNat] at ho15; rw [← Ny141.out] at ho15)); have n0_ := Aside0.mk (Kd.R_elder' (by (with_reducible repeat (first | apply Kd.R_alloc | apply Kd.R_drewN | apply Kd.R_drew)); exact HO134.out) (Kd.R_base ho15) hb); have n1_ := Aside0.mk (Kd.R_below (by (with_reducible repeat (first | apply Kd.R_alloc | apply Kd.R_drewN | apply Kd.R_drew)); exact HO137.out) hb); have n2_ := Aside0.mk (Kd.R_lower (Kd.R_new' ho15 (Kd.R_lt (by (with_reducible repeat (first | apply Kd.R_alloc | apply Kd.R_drewN | apply Kd.R_drew)); exact HO134.out))) (below_size (by repeat (first | (with_reducible first | exact HB.out | apply below_alloc | apply pw_below_drewN | apply below_drew1) | exact HB.out)))); have n3_ := Aside0.mk (below_step (by repeat (first | (with_reducible first | exact HB.out | apply below_alloc | apply pw_below_drewN | apply below_drew1) | exact HB.out)) hb); clear HO134; clear HO137; clear HB; have HO134 := n0_; have HO137 := n1_; have HO143 := n2_; have HB := n3_; clear n0_ n1_ n2_ n3_; clear hb ho15) | ((with_reducible refine gate_dst (N := 16) rfl ?_); refine Kd.R_lit Kd.bool _ 4 ?hg (N := 16) ?hd (xs := ([true] : List Bool)) (inner := [.bool true]) (ok := fun _ => True) (okp := fun _ => True) ?hr ?hp (fun _ hk => hk) trivial (Below.refl _ _) (Nat.le_refl _) (by simp) ?_; (case hd => rfl); (case hg => rfl); (case hr => first | (go_simp; done) | (go_simp; rfl)); (case hp => exact (Reps.one (show Kd.M Kd.bool _ _ _ true [.bool true] from rfl) (Reps.none _ _))); intro v145 w16 ho17 hb hg_ hnew_; clear hg_ hnew_; (first | rw [← Ny144.out] at ho17 | (simp only [Int.reduceToNat] at ho17; rw [← Ny144.out] at ho17)); have n0_ := Aside0.mk (Kd.R_below (by (with_reducible repeat (first | apply Kd.R_alloc | apply Kd.R_drewN | apply Kd.R_drew)); exact HO134.out) hb); have n1_ := Aside0.mk (Kd.R_elder' (by (with_reducible repeat (first | apply Kd.R_alloc | apply Kd.R_drewN | apply Kd.R_drew)); exact HO137.out) (Kd.R_base ho17) hb); have n2_ := Aside0.mk (Kd.R_below (by (with_reducible repeat (first | apply Kd.R_alloc | apply Kd.R_drewN | apply Kd.R_drew)); exact HO143.out) hb); have n3_ := Aside0.mk (Kd.R_lower (Kd.R_new' ho17 (Kd.R_lt (by (with_reducible repeat (first | apply Kd.R_alloc | apply Kd.R_drewN | apply Kd.R_drew)); exact HO137.out))) (below_size (by repeat (first | (with_reducible first | exact HB.out | apply below_alloc | apply pw_below_drewN | apply below_drew1) | exact HB.out)))); have n4_ := Aside0.mk (below_step (by repeat (first | (with_reducible first | exact HB.out | apply below_alloc | apply pw_below_drewN | apply below_drew1) | exact HB.out)) hb); clear HO134; clear HO137; clear HO143; clear HB; have HO134 := n0_; have HO137 := n1_; have HO143 := n2_; have HO146 := n3_; have HB := n4_; clear n0_ n1_ n2_ n3_ n4_; clear hb ho17; obtain ⟨Ao18, co18, eo18⟩ := Kd.R_slice HO143.out; subst eo18; obtain ⟨Ao19, co19, eo19⟩ := Kd.R_slice HO146.out; subst eo19) | ((with_reducible refine gate_callee (f := 34) rfl ?_); refine goesL_ (some 17) rfl rfl Try.func34 (by kernel_rfl) rfl #[.string (⟨#[33, 115, 111, 109, 101, 40, 119, 104, 101, 114, 101, 32, 40, 112, 95, 101, 102, 116, 32, 61, 61, 32, 100, 101, 110, 121, 41, 41]⟩ : ByteArray), .slice Ao18 y141.length co18, .slice Ao19 y144.length co19, .int .i64 0, .int .i64 1] rfl (by (try simp only [List.map_toArray, List.map_cons, List.map_nil]); first | done | rfl | (simp only [List.length_drop, List.length_take]; rfl)) ?_; (with_reducible refine (impl_Merge.calls k (⟨#[33, 115, 111, 109, 101, 40, 119, 104, 101, 114, 101, 32, 40, 112, 95, 101, 102, 116, 32, 61, 61, 32, 100, 101, 110, 121, 41, 41]⟩ : ByteArray) _ _ y141 _ _ y144 0 1 t147 t148 t149 _ ?side1 ?side2 ?side3 ?side4 A2.out).mono ?_); (case side1 => repeat (first | exact (Kd.R_reads' HO143.out).2.2 | (with_reducible refine Kd.C_alloc ?_ _) | (with_reducible refine Kd.C_drewN ?_ _) | (with_reducible refine Kd.C_drew ?_))); (case side2 => exact (Kd.R_reads' HO143.out).2.1); (case side3 => repeat (first | exact (Kd.R_reads' HO146.out).2.2 | (with_reducible refine Kd.C_alloc ?_ _) | (with_reducible refine Kd.C_drewN ?_ _) | (with_reducible refine Kd.C_drew ?_))); (case side4 => exact (Kd.R_reads' HO146.out).2.1); rintro e w20 ⟨rfl, hb⟩; refine ⟨_, rfl, ?_⟩; have n0_ := Aside0.mk (Kd.R_below (by (with_reducible repeat (first | apply Kd.R_alloc | apply Kd.R_drewN | apply Kd.R_drew)); exact HO134.out) hb); have n1_ := Aside0.mk (Kd.R_below (by (with_reducible repeat (first | apply Kd.R_alloc | apply Kd.R_drewN | apply Kd.R_drew)); exact HO137.out) hb); have n2_ := Aside0.mk (Kd.R_below (by (with_reducible repeat (first | apply Kd.R_alloc | apply Kd.R_drewN | apply Kd.R_drew)); exact HO143.out) hb); have n3_ := Aside0.mk (Kd.R_below (by (with_reducible repeat (first | apply Kd.R_alloc | apply Kd.R_drewN | apply Kd.R_drew)); exact HO146.out) hb); have n4_ := Aside0.mk (below_step (by repeat (first | (with_reducible first | exact HB.out | apply below_alloc | apply pw_below_drewN | apply below_drew1) | exact HB.out)) hb); clear HO134; clear HO137; clear HO143; clear HO146; clear HB; have HO134 := n0_; have HO137 := n1_; have HO143 := n2_; have HO146 := n3_; have HB := n4_; clear n0_ n1_ n2_ n3_ n4_; (try clear hb); (try clear hb2); (try clear hk); (try clear hi)))
          go_ret
          exact ⟨by first | rfl | (simp [errW_none, errW_some] <;> rfl) | (simp [*, errW_none, errW_some] <;> rfl), by repeat (first | (with_reducible first | exact HB.out | apply below_alloc | apply pw_below_drewN | apply below_drew1) | exact HB.out)⟩
        · rw [if_neg c6] at H
          have c6b0 : (t147 == 2) = false := beq_eq_false_iff_ne.mpr c6
          have c6b1 : (t147 != 2) = true := bne_iff_ne.mpr c6
          obtain rfl := Option.some.inj H
          go_enter Try.func29, Try.ntmps29
          go_wp2_with (first | ((with_reducible refine gate_dst (N := 8) rfl ?_); refine Kd.R_lit (Kd.int .i64) _ 3 ?hg (N := 8) ?hd (xs := ([0] : List Int)) (inner := [.int .i64 0]) (ok := fun _ => True) (okp := fun _ => True) ?hr ?hp (fun _ hk => hk) trivial (Below.refl _ _) (Nat.le_refl _) (by simp) ?_; (case hd => rfl); (case hg => rfl); (case hr => first | (go_simp; done) | (go_simp; rfl)); (case hp => exact (Reps.one (show Kd.M (Kd.int .i64) _ _ _ 0 [.int .i64 0] from rfl) (Reps.none _ _))); intro v133 w21 ho22 hb hg_ hnew_; clear hg_ hnew_; (first | rw [← Ny132.out] at ho22 | (simp only [Int.reduceToNat] at ho22; rw [← Ny132.out] at ho22)); have n0_ := Aside0.mk (Kd.R_lower ho22 (below_size (by repeat (first | (with_reducible first | exact HB.out | apply below_alloc | apply pw_below_drewN | apply below_drew1) | exact HB.out)))); have n1_ := Aside0.mk (below_step (by repeat (first | (with_reducible first | exact HB.out | apply below_alloc | apply pw_below_drewN | apply below_drew1) | exact HB.out)) hb); clear HB; have HO134 := n0_; have HB := n1_; clear n0_ n1_; clear hb ho22) | ((with_reducible refine gate_dst (N := 9) rfl ?_); refine Kd.R_lit Kd.bool _ 4 ?hg (N := 9) ?hd (xs := ([true] : List Bool)) (inner := [.bool true]) (ok := fun _ => True) (okp := fun _ => True) ?hr ?hp (fun _ hk => hk) trivial (Below.refl _ _) (Nat.le_refl _) (by simp) ?_; (case hd => rfl); (case hg => rfl); (case hr => first | (go_simp; done) | (go_simp; rfl)); (case hp => exact (Reps.one (show Kd.M Kd.bool _ _ _ true [.bool true] from rfl) (Reps.none _ _))); intro v136 w23 ho24 hb hg_ hnew_; clear hg_ hnew_; (first | rw [← Ny135.out] at ho24 | (simp only [Int.reduceToNat] at ho24; rw [← Ny135.out] at ho24)); have n0_ := Aside0.mk (Kd.R_below (by (with_reducible repeat (first | apply Kd.R_alloc | apply Kd.R_drewN | apply Kd.R_drew)); exact HO134.out) hb); have n1_ := Aside0.mk (Kd.R_lower ho24 (below_size (by repeat (first | (with_reducible first | exact HB.out | apply below_alloc | apply pw_below_drewN | apply below_drew1) | exact HB.out)))); have n2_ := Aside0.mk (below_step (by repeat (first | (with_reducible first | exact HB.out | apply below_alloc | apply pw_below_drewN | apply below_drew1) | exact HB.out)) hb); clear HO134; clear HB; have HO134 := n0_; have HO137 := n1_; have HB := n2_; clear n0_ n1_ n2_; clear hb ho24; obtain ⟨Ao25, co25, eo25⟩ := Kd.R_slice HO134.out; subst eo25; obtain ⟨Ao26, co26, eo26⟩ := Kd.R_slice HO137.out; subst eo26) | ((with_reducible refine gate_callee (f := 34) rfl ?_); refine goesL_ (some 10) rfl rfl Try.func34 (by kernel_rfl) rfl #[.string (⟨#[115, 111, 109, 101, 40, 119, 104, 101, 114, 101, 32, 40, 112, 95, 101, 102, 116, 32, 61, 61, 32, 97, 108, 108, 111, 119, 41, 41]⟩ : ByteArray), .slice Ao25 y132.length co25, .slice Ao26 y135.length co26, .int .i64 0, .int .i64 1] rfl (by (try simp only [List.map_toArray, List.map_cons, List.map_nil]); first | done | rfl | (simp only [List.length_drop, List.length_take]; rfl)) ?_; (with_reducible refine (impl_Merge.calls k (⟨#[115, 111, 109, 101, 40, 119, 104, 101, 114, 101, 32, 40, 112, 95, 101, 102, 116, 32, 61, 61, 32, 97, 108, 108, 111, 119, 41, 41]⟩ : ByteArray) _ _ y132 _ _ y135 0 1 t138 t139 t140 _ ?side1 ?side2 ?side3 ?side4 A1.out).mono ?_); (case side1 => repeat (first | exact (Kd.R_reads' HO134.out).2.2 | (with_reducible refine Kd.C_alloc ?_ _) | (with_reducible refine Kd.C_drewN ?_ _) | (with_reducible refine Kd.C_drew ?_))); (case side2 => exact (Kd.R_reads' HO134.out).2.1); (case side3 => repeat (first | exact (Kd.R_reads' HO137.out).2.2 | (with_reducible refine Kd.C_alloc ?_ _) | (with_reducible refine Kd.C_drewN ?_ _) | (with_reducible refine Kd.C_drew ?_))); (case side4 => exact (Kd.R_reads' HO137.out).2.1); rintro e w27 ⟨rfl, hb⟩; refine ⟨_, rfl, ?_⟩; have n0_ := Aside0.mk (Kd.R_below (by (with_reducible repeat (first | apply Kd.R_alloc | apply Kd.R_drewN | apply Kd.R_drew)); exact HO134.out) hb); have n1_ := Aside0.mk (Kd.R_below (by (with_reducible repeat (first | apply Kd.R_alloc | apply Kd.R_drewN | apply Kd.R_drew)); exact HO137.out) hb); have n2_ := Aside0.mk (below_step (by repeat (first | (with_reducible first | exact HB.out | apply below_alloc | apply pw_below_drewN | apply below_drew1) | exact HB.out)) hb); clear HO134; clear HO137; clear HB; have HO134 := n0_; have HO137 := n1_; have HB := n2_; clear n0_ n1_ n2_; (try clear hb); (try clear hb2); (try clear hk); (try clear hi)) | ((with_reducible refine gate_dst (N := 15) rfl ?_); refine Kd.R_lit (Kd.int .i64) _ 3 ?hg (N := 15) ?hd (xs := ([2] : List Int)) (inner := [.int .i64 2]) (ok := fun _ => True) (okp := fun _ => True) ?hr ?hp (fun _ hk => hk) trivial (Below.refl _ _) (Nat.le_refl _) (by simp) ?_; (case hd => rfl); (case hg => rfl); (case hr => first | (go_simp; done) | (go_simp; rfl)); (case hp => exact (Reps.one (show Kd.M (Kd.int .i64) _ _ _ 2 [.int .i64 2] from rfl) (Reps.none _ _))); intro v142 w28 ho29 hb hg_ hnew_; clear hg_ hnew_; (first | rw [← Ny141.out] at ho29 | (simp only [Int.reduceToNat] at ho29; rw [← Ny141.out] at ho29)); have n0_ := Aside0.mk (Kd.R_elder' (by (with_reducible repeat (first | apply Kd.R_alloc | apply Kd.R_drewN | apply Kd.R_drew)); exact HO134.out) (Kd.R_base ho29) hb); have n1_ := Aside0.mk (Kd.R_below (by (with_reducible repeat (first | apply Kd.R_alloc | apply Kd.R_drewN | apply Kd.R_drew)); exact HO137.out) hb); have n2_ := Aside0.mk (Kd.R_lower (Kd.R_new' ho29 (Kd.R_lt (by (with_reducible repeat (first | apply Kd.R_alloc | apply Kd.R_drewN | apply Kd.R_drew)); exact HO134.out))) (below_size (by repeat (first | (with_reducible first | exact HB.out | apply below_alloc | apply pw_below_drewN | apply below_drew1) | exact HB.out)))); have n3_ := Aside0.mk (below_step (by repeat (first | (with_reducible first | exact HB.out | apply below_alloc | apply pw_below_drewN | apply below_drew1) | exact HB.out)) hb); clear HO134; clear HO137; clear HB; have HO134 := n0_; have HO137 := n1_; have HO143 := n2_; have HB := n3_; clear n0_ n1_ n2_ n3_; clear hb ho29) | ((with_reducible refine gate_dst (N := 16) rfl ?_); refine Kd.R_lit Kd.bool _ 4 ?hg (N := 16) ?hd (xs := ([true] : List Bool)) (inner := [.bool true]) (ok := fun _ => True) (okp := fun _ => True) ?hr ?hp (fun _ hk => hk) trivial (Below.refl _ _) (Nat.le_refl _) (by simp) ?_; (case hd => rfl); (case hg => rfl); (case hr => first | (go_simp; done) | (go_simp; rfl)); (case hp => exact (Reps.one (show Kd.M Kd.bool _ _ _ true [.bool true] from rfl) (Reps.none _ _))); intro v145 w30 ho31 hb hg_ hnew_; clear hg_ hnew_; (first | rw [← Ny144.out] at ho31 | (simp only [Int.reduceToNat] at ho31; rw [← Ny144.out] at ho31)); have n0_ := Aside0.mk (Kd.R_below (by (with_reducible repeat (first | apply Kd.R_alloc | apply Kd.R_drewN | apply Kd.R_drew)); exact HO134.out) hb); have n1_ := Aside0.mk (Kd.R_elder' (by (with_reducible repeat (first | apply Kd.R_alloc | apply Kd.R_drewN | apply Kd.R_drew)); exact HO137.out) (Kd.R_base ho31) hb); have n2_ := Aside0.mk (Kd.R_below (by (with_reducible repeat (first | apply Kd.R_alloc | apply Kd.R_drewN | apply Kd.R_drew)); exact HO143.out) hb); have n3_ := Aside0.mk (Kd.R_lower (Kd.R_new' ho31 (Kd.R_lt (by (with_reducible repeat (first | apply Kd.R_alloc | apply Kd.R_drewN | apply Kd.R_drew)); exact HO137.out))) (below_size (by repeat (first | (with_reducible first | exact HB.out | apply below_alloc | apply pw_below_drewN | apply below_drew1) | exact HB.out)))); have n4_ := Aside0.mk (below_step (by repeat (first | (with_reducible first | exact HB.out | apply below_alloc | apply pw_below_drewN | apply below_drew1) | exact HB.out)) hb); clear HO134; clear HO137; clear HO143; clear HB; have HO134 := n0_; have HO137 := n1_; have HO143 := n2_; have HO146 := n3_; have HB := n4_; clear n0_ n1_ n2_ n3_ n4_; clear hb ho31; obtain ⟨Ao32, co32, eo32⟩ := Kd.R_slice HO143.out; subst eo32; obtain ⟨Ao33, co33, eo33⟩ := Kd.R_slice HO146.out; subst eo33) | ((with_reducible refine gate_callee (f := 34) rfl ?_); refine goesL_ (some 17) rfl rfl Try.func34 (by kernel_rfl) rfl #[.string (⟨#[33, 115, 111, 109, 101, 40, 119, 104, 101, 114, 101, 32, 40, 112, 95, 101, 102, 116, 32, 61, 61, 32, 100, 101, 110, 121, 41, 41]⟩ : ByteArray), .slice Ao32 y141.length co32, .slice Ao33 y144.length co33, .int .i64 0, .int .i64 1] rfl (by (try simp only [List.map_toArray, List.map_cons, List.map_nil]); first | done | rfl | (simp only [List.length_drop, List.length_take]; rfl)) ?_; (with_reducible refine (impl_Merge.calls k (⟨#[33, 115, 111, 109, 101, 40, 119, 104, 101, 114, 101, 32, 40, 112, 95, 101, 102, 116, 32, 61, 61, 32, 100, 101, 110, 121, 41, 41]⟩ : ByteArray) _ _ y141 _ _ y144 0 1 t147 t148 t149 _ ?side1 ?side2 ?side3 ?side4 A2.out).mono ?_); (case side1 => repeat (first | exact (Kd.R_reads' HO143.out).2.2 | (with_reducible refine Kd.C_alloc ?_ _) | (with_reducible refine Kd.C_drewN ?_ _) | (with_reducible refine Kd.C_drew ?_))); (case side2 => exact (Kd.R_reads' HO143.out).2.1); (case side3 => repeat (first | exact (Kd.R_reads' HO146.out).2.2 | (with_reducible refine Kd.C_alloc ?_ _) | (with_reducible refine Kd.C_drewN ?_ _) | (with_reducible refine Kd.C_drew ?_))); (case side4 => exact (Kd.R_reads' HO146.out).2.1); rintro e w34 ⟨rfl, hb⟩; refine ⟨_, rfl, ?_⟩; have n0_ := Aside0.mk (Kd.R_below (by (with_reducible repeat (first | apply Kd.R_alloc | apply Kd.R_drewN | apply Kd.R_drew)); exact HO134.out) hb); have n1_ := Aside0.mk (Kd.R_below (by (with_reducible repeat (first | apply Kd.R_alloc | apply Kd.R_drewN | apply Kd.R_drew)); exact HO137.out) hb); have n2_ := Aside0.mk (Kd.R_below (by (with_reducible repeat (first | apply Kd.R_alloc | apply Kd.R_drewN | apply Kd.R_drew)); exact HO143.out) hb); have n3_ := Aside0.mk (Kd.R_below (by (with_reducible repeat (first | apply Kd.R_alloc | apply Kd.R_drewN | apply Kd.R_drew)); exact HO146.out) hb); have n4_ := Aside0.mk (below_step (by repeat (first | (with_reducible first | exact HB.out | apply below_alloc | apply pw_below_drewN | apply below_drew1) | exact HB.out)) hb); clear HO134; clear HO137; clear HO143; clear HO146; clear HB; have HO134 := n0_; have HO137 := n1_; have HO143 := n2_; have HO146 := n3_; have HB := n4_; clear n0_ n1_ n2_ n3_ n4_; (try clear hb); (try clear hb2); (try clear hk); (try clear hi)))
          go_ret
          exact ⟨by first | rfl | (simp [errW_none, errW_some] <;> rfl) | (simp [*, errW_none, errW_some] <;> rfl), by repeat (first | (with_reducible first | exact HB.out | apply below_alloc | apply pw_below_drewN | apply below_drew1) | exact HB.out)⟩
      · rw [if_neg c5] at H
        have c5b0 : (t140 == 0) = false := beq_eq_false_iff_ne.mpr c5
        have c5b1 : (t140 != 0) = true := bne_iff_ne.mpr c5
        obtain rfl := Option.some.inj H
        go_enter Try.func29, Try.ntmps29
        go_wp2_with (first | ((with_reducible refine gate_dst (N := 8) rfl ?_); refine Kd.R_lit (Kd.int .i64) _ 3 ?hg (N := 8) ?hd (xs := ([0] : List Int)) (inner := [.int .i64 0]) (ok := fun _ => True) (okp := fun _ => True) ?hr ?hp (fun _ hk => hk) trivial (Below.refl _ _) (Nat.le_refl _) (by simp) ?_; (case hd => rfl); (case hg => rfl); (case hr => first | (go_simp; done) | (go_simp; rfl)); (case hp => exact (Reps.one (show Kd.M (Kd.int .i64) _ _ _ 0 [.int .i64 0] from rfl) (Reps.none _ _))); intro v133 w35 ho36 hb hg_ hnew_; clear hg_ hnew_; (first | rw [← Ny132.out] at ho36 | (simp only [Int.reduceToNat] at ho36; rw [← Ny132.out] at ho36)); have n0_ := Aside0.mk (Kd.R_lower ho36 (below_size (by repeat (first | (with_reducible first | exact HB.out | apply below_alloc | apply pw_below_drewN | apply below_drew1) | exact HB.out)))); have n1_ := Aside0.mk (below_step (by repeat (first | (with_reducible first | exact HB.out | apply below_alloc | apply pw_below_drewN | apply below_drew1) | exact HB.out)) hb); clear HB; have HO134 := n0_; have HB := n1_; clear n0_ n1_; clear hb ho36) | ((with_reducible refine gate_dst (N := 9) rfl ?_); refine Kd.R_lit Kd.bool _ 4 ?hg (N := 9) ?hd (xs := ([true] : List Bool)) (inner := [.bool true]) (ok := fun _ => True) (okp := fun _ => True) ?hr ?hp (fun _ hk => hk) trivial (Below.refl _ _) (Nat.le_refl _) (by simp) ?_; (case hd => rfl); (case hg => rfl); (case hr => first | (go_simp; done) | (go_simp; rfl)); (case hp => exact (Reps.one (show Kd.M Kd.bool _ _ _ true [.bool true] from rfl) (Reps.none _ _))); intro v136 w37 ho38 hb hg_ hnew_; clear hg_ hnew_; (first | rw [← Ny135.out] at ho38 | (simp only [Int.reduceToNat] at ho38; rw [← Ny135.out] at ho38)); have n0_ := Aside0.mk (Kd.R_below (by (with_reducible repeat (first | apply Kd.R_alloc | apply Kd.R_drewN | apply Kd.R_drew)); exact HO134.out) hb); have n1_ := Aside0.mk (Kd.R_lower ho38 (below_size (by repeat (first | (with_reducible first | exact HB.out | apply below_alloc | apply pw_below_drewN | apply below_drew1) | exact HB.out)))); have n2_ := Aside0.mk (below_step (by repeat (first | (with_reducible first | exact HB.out | apply below_alloc | apply pw_below_drewN | apply below_drew1) | exact HB.out)) hb); clear HO134; clear HB; have HO134 := n0_; have HO137 := n1_; have HB := n2_; clear n0_ n1_ n2_; clear hb ho38; obtain ⟨Ao39, co39, eo39⟩ := Kd.R_slice HO134.out; subst eo39; obtain ⟨Ao40, co40, eo40⟩ := Kd.R_slice HO137.out; subst eo40) | ((with_reducible refine gate_callee (f := 34) rfl ?_); refine goesL_ (some 10) rfl rfl Try.func34 (by kernel_rfl) rfl #[.string (⟨#[115, 111, 109, 101, 40, 119, 104, 101, 114, 101, 32, 40, 112, 95, 101, 102, 116, 32, 61, 61, 32, 97, 108, 108, 111, 119, 41, 41]⟩ : ByteArray), .slice Ao39 y132.length co39, .slice Ao40 y135.length co40, .int .i64 0, .int .i64 1] rfl (by (try simp only [List.map_toArray, List.map_cons, List.map_nil]); first | done | rfl | (simp only [List.length_drop, List.length_take]; rfl)) ?_; (with_reducible refine (impl_Merge.calls k (⟨#[115, 111, 109, 101, 40, 119, 104, 101, 114, 101, 32, 40, 112, 95, 101, 102, 116, 32, 61, 61, 32, 97, 108, 108, 111, 119, 41, 41]⟩ : ByteArray) _ _ y132 _ _ y135 0 1 t138 t139 t140 _ ?side1 ?side2 ?side3 ?side4 A1.out).mono ?_); (case side1 => repeat (first | exact (Kd.R_reads' HO134.out).2.2 | (with_reducible refine Kd.C_alloc ?_ _) | (with_reducible refine Kd.C_drewN ?_ _) | (with_reducible refine Kd.C_drew ?_))); (case side2 => exact (Kd.R_reads' HO134.out).2.1); (case side3 => repeat (first | exact (Kd.R_reads' HO137.out).2.2 | (with_reducible refine Kd.C_alloc ?_ _) | (with_reducible refine Kd.C_drewN ?_ _) | (with_reducible refine Kd.C_drew ?_))); (case side4 => exact (Kd.R_reads' HO137.out).2.1); rintro e w41 ⟨rfl, hb⟩; refine ⟨_, rfl, ?_⟩; have n0_ := Aside0.mk (Kd.R_below (by (with_reducible repeat (first | apply Kd.R_alloc | apply Kd.R_drewN | apply Kd.R_drew)); exact HO134.out) hb); have n1_ := Aside0.mk (Kd.R_below (by (with_reducible repeat (first | apply Kd.R_alloc | apply Kd.R_drewN | apply Kd.R_drew)); exact HO137.out) hb); have n2_ := Aside0.mk (below_step (by repeat (first | (with_reducible first | exact HB.out | apply below_alloc | apply pw_below_drewN | apply below_drew1) | exact HB.out)) hb); clear HO134; clear HO137; clear HB; have HO134 := n0_; have HO137 := n1_; have HB := n2_; clear n0_ n1_ n2_; (try clear hb); (try clear hb2); (try clear hk); (try clear hi)) | ((with_reducible refine gate_dst (N := 15) rfl ?_); refine Kd.R_lit (Kd.int .i64) _ 3 ?hg (N := 15) ?hd (xs := ([2] : List Int)) (inner := [.int .i64 2]) (ok := fun _ => True) (okp := fun _ => True) ?hr ?hp (fun _ hk => hk) trivial (Below.refl _ _) (Nat.le_refl _) (by simp) ?_; (case hd => rfl); (case hg => rfl); (case hr => first | (go_simp; done) | (go_simp; rfl)); (case hp => exact (Reps.one (show Kd.M (Kd.int .i64) _ _ _ 2 [.int .i64 2] from rfl) (Reps.none _ _))); intro v142 w42 ho43 hb hg_ hnew_; clear hg_ hnew_; (first | rw [← Ny141.out] at ho43 | (simp only [Int.reduceToNat] at ho43; rw [← Ny141.out] at ho43)); have n0_ := Aside0.mk (Kd.R_elder' (by (with_reducible repeat (first | apply Kd.R_alloc | apply Kd.R_drewN | apply Kd.R_drew)); exact HO134.out) (Kd.R_base ho43) hb); have n1_ := Aside0.mk (Kd.R_below (by (with_reducible repeat (first | apply Kd.R_alloc | apply Kd.R_drewN | apply Kd.R_drew)); exact HO137.out) hb); have n2_ := Aside0.mk (Kd.R_lower (Kd.R_new' ho43 (Kd.R_lt (by (with_reducible repeat (first | apply Kd.R_alloc | apply Kd.R_drewN | apply Kd.R_drew)); exact HO134.out))) (below_size (by repeat (first | (with_reducible first | exact HB.out | apply below_alloc | apply pw_below_drewN | apply below_drew1) | exact HB.out)))); have n3_ := Aside0.mk (below_step (by repeat (first | (with_reducible first | exact HB.out | apply below_alloc | apply pw_below_drewN | apply below_drew1) | exact HB.out)) hb); clear HO134; clear HO137; clear HB; have HO134 := n0_; have HO137 := n1_; have HO143 := n2_; have HB := n3_; clear n0_ n1_ n2_ n3_; clear hb ho43) | ((with_reducible refine gate_dst (N := 16) rfl ?_); refine Kd.R_lit Kd.bool _ 4 ?hg (N := 16) ?hd (xs := ([true] : List Bool)) (inner := [.bool true]) (ok := fun _ => True) (okp := fun _ => True) ?hr ?hp (fun _ hk => hk) trivial (Below.refl _ _) (Nat.le_refl _) (by simp) ?_; (case hd => rfl); (case hg => rfl); (case hr => first | (go_simp; done) | (go_simp; rfl)); (case hp => exact (Reps.one (show Kd.M Kd.bool _ _ _ true [.bool true] from rfl) (Reps.none _ _))); intro v145 w44 ho45 hb hg_ hnew_; clear hg_ hnew_; (first | rw [← Ny144.out] at ho45 | (simp only [Int.reduceToNat] at ho45; rw [← Ny144.out] at ho45)); have n0_ := Aside0.mk (Kd.R_below (by (with_reducible repeat (first | apply Kd.R_alloc | apply Kd.R_drewN | apply Kd.R_drew)); exact HO134.out) hb); have n1_ := Aside0.mk (Kd.R_elder' (by (with_reducible repeat (first | apply Kd.R_alloc | apply Kd.R_drewN | apply Kd.R_drew)); exact HO137.out) (Kd.R_base ho45) hb); have n2_ := Aside0.mk (Kd.R_below (by (with_reducible repeat (first | apply Kd.R_alloc | apply Kd.R_drewN | apply Kd.R_drew)); exact HO143.out) hb); have n3_ := Aside0.mk (Kd.R_lower (Kd.R_new' ho45 (Kd.R_lt (by (with_reducible repeat (first | apply Kd.R_alloc | apply Kd.R_drewN | apply Kd.R_drew)); exact HO137.out))) (below_size (by repeat (first | (with_reducible first | exact HB.out | apply below_alloc | apply pw_below_drewN | apply below_drew1) | exact HB.out)))); have n4_ := Aside0.mk (below_step (by repeat (first | (with_reducible first | exact HB.out | apply below_alloc | apply pw_below_drewN | apply below_drew1) | exact HB.out)) hb); clear HO134; clear HO137; clear HO143; clear HB; have HO134 := n0_; have HO137 := n1_; have HO143 := n2_; have HO146 := n3_; have HB := n4_; clear n0_ n1_ n2_ n3_ n4_; clear hb ho45; obtain ⟨Ao46, co46, eo46⟩ := Kd.R_slice HO143.out; subst eo46; obtain ⟨Ao47, co47, eo47⟩ := Kd.R_slice HO146.out; subst eo47) | ((with_reducible refine gate_callee (f := 34) rfl ?_); refine goesL_ (some 17) rfl rfl Try.func34 (by kernel_rfl) rfl #[.string (⟨#[33, 115, 111, 109, 101, 40, 119, 104, 101, 114, 101, 32, 40, 112, 95, 101, 102, 116, 32, 61, 61, 32, 100, 101, 110, 121, 41, 41]⟩ : ByteArray), .slice Ao46 y141.length co46, .slice Ao47 y144.length co47, .int .i64 0, .int .i64 1] rfl (by (try simp only [List.map_toArray, List.map_cons, List.map_nil]); first | done | rfl | (simp only [List.length_drop, List.length_take]; rfl)) ?_; (with_reducible refine (impl_Merge.calls k (⟨#[33, 115, 111, 109, 101, 40, 119, 104, 101, 114, 101, 32, 40, 112, 95, 101, 102, 116, 32, 61, 61, 32, 100, 101, 110, 121, 41, 41]⟩ : ByteArray) _ _ y141 _ _ y144 0 1 t147 t148 t149 _ ?side1 ?side2 ?side3 ?side4 A2.out).mono ?_); (case side1 => repeat (first | exact (Kd.R_reads' HO143.out).2.2 | (with_reducible refine Kd.C_alloc ?_ _) | (with_reducible refine Kd.C_drewN ?_ _) | (with_reducible refine Kd.C_drew ?_))); (case side2 => exact (Kd.R_reads' HO143.out).2.1); (case side3 => repeat (first | exact (Kd.R_reads' HO146.out).2.2 | (with_reducible refine Kd.C_alloc ?_ _) | (with_reducible refine Kd.C_drewN ?_ _) | (with_reducible refine Kd.C_drew ?_))); (case side4 => exact (Kd.R_reads' HO146.out).2.1); rintro e w48 ⟨rfl, hb⟩; refine ⟨_, rfl, ?_⟩; have n0_ := Aside0.mk (Kd.R_below (by (with_reducible repeat (first | apply Kd.R_alloc | apply Kd.R_drewN | apply Kd.R_drew)); exact HO134.out) hb); have n1_ := Aside0.mk (Kd.R_below (by (with_reducible repeat (first | apply Kd.R_alloc | apply Kd.R_drewN | apply Kd.R_drew)); exact HO137.out) hb); have n2_ := Aside0.mk (Kd.R_below (by (with_reducible repeat (first | apply Kd.R_alloc | apply Kd.R_drewN | apply Kd.R_drew)); exact HO143.out) hb); have n3_ := Aside0.mk (Kd.R_below (by (with_reducible repeat (first | apply Kd.R_alloc | apply Kd.R_drewN | apply Kd.R_drew)); exact HO146.out) hb); have n4_ := Aside0.mk (below_step (by repeat (first | (with_reducible first | exact HB.out | apply below_alloc | apply pw_below_drewN | apply below_drew1) | exact HB.out)) hb); clear HO134; clear HO137; clear HO143; clear HO146; clear HB; have HO134 := n0_; have HO137 := n1_; have HO143 := n2_; have HO146 := n3_; have HB := n4_; clear n0_ n1_ n2_ n3_ n4_; (try clear hb); (try clear hb2); (try clear hk); (try clear hi)))
        go_ret
        exact ⟨by first | rfl | (simp [errW_none, errW_some] <;> rfl) | (simp [*, errW_none, errW_some] <;> rfl), by repeat (first | (with_reducible first | exact HB.out | apply below_alloc | apply pw_below_drewN | apply below_drew1) | exact HB.out)⟩
    · rw [if_neg c4] at H
      have c4b0 : (t139 == 0) = false := beq_eq_false_iff_ne.mpr c4
      have c4b1 : (t139 != 0) = true := bne_iff_ne.mpr c4
      obtain rfl := Option.some.inj H
      go_enter Try.func29, Try.ntmps29
      go_wp2_with (first | ((with_reducible refine gate_dst (N := 8) rfl ?_); refine Kd.R_lit (Kd.int .i64) _ 3 ?hg (N := 8) ?hd (xs := ([0] : List Int)) (inner := [.int .i64 0]) (ok := fun _ => True) (okp := fun _ => True) ?hr ?hp (fun _ hk => hk) trivial (Below.refl _ _) (Nat.le_refl _) (by simp) ?_; (case hd => rfl); (case hg => rfl); (case hr => first | (go_simp; done) | (go_simp; rfl)); (case hp => exact (Reps.one (show Kd.M (Kd.int .i64) _ _ _ 0 [.int .i64 0] from rfl) (Reps.none _ _))); intro v133 w49 ho50 hb hg_ hnew_; clear hg_ hnew_; (first | rw [← Ny132.out] at ho50 | (simp only [Int.reduceToNat] at ho50; rw [← Ny132.out] at ho50)); have n0_ := Aside0.mk (Kd.R_lower ho50 (below_size (by repeat (first | (with_reducible first | exact HB.out | apply below_alloc | apply pw_below_drewN | apply below_drew1) | exact HB.out)))); have n1_ := Aside0.mk (below_step (by repeat (first | (with_reducible first | exact HB.out | apply below_alloc | apply pw_below_drewN | apply below_drew1) | exact HB.out)) hb); clear HB; have HO134 := n0_; have HB := n1_; clear n0_ n1_; clear hb ho50) | ((with_reducible refine gate_dst (N := 9) rfl ?_); refine Kd.R_lit Kd.bool _ 4 ?hg (N := 9) ?hd (xs := ([true] : List Bool)) (inner := [.bool true]) (ok := fun _ => True) (okp := fun _ => True) ?hr ?hp (fun _ hk => hk) trivial (Below.refl _ _) (Nat.le_refl _) (by simp) ?_; (case hd => rfl); (case hg => rfl); (case hr => first | (go_simp; done) | (go_simp; rfl)); (case hp => exact (Reps.one (show Kd.M Kd.bool _ _ _ true [.bool true] from rfl) (Reps.none _ _))); intro v136 w51 ho52 hb hg_ hnew_; clear hg_ hnew_; (first | rw [← Ny135.out] at ho52 | (simp only [Int.reduceToNat] at ho52; rw [← Ny135.out] at ho52)); have n0_ := Aside0.mk (Kd.R_below (by (with_reducible repeat (first | apply Kd.R_alloc | apply Kd.R_drewN | apply Kd.R_drew)); exact HO134.out) hb); have n1_ := Aside0.mk (Kd.R_lower ho52 (below_size (by repeat (first | (with_reducible first | exact HB.out | apply below_alloc | apply pw_below_drewN | apply below_drew1) | exact HB.out)))); have n2_ := Aside0.mk (below_step (by repeat (first | (with_reducible first | exact HB.out | apply below_alloc | apply pw_below_drewN | apply below_drew1) | exact HB.out)) hb); clear HO134; clear HB; have HO134 := n0_; have HO137 := n1_; have HB := n2_; clear n0_ n1_ n2_; clear hb ho52; obtain ⟨Ao53, co53, eo53⟩ := Kd.R_slice HO134.out; subst eo53; obtain ⟨Ao54, co54, eo54⟩ := Kd.R_slice HO137.out; subst eo54) | ((with_reducible refine gate_callee (f := 34) rfl ?_); refine goesL_ (some 10) rfl rfl Try.func34 (by kernel_rfl) rfl #[.string (⟨#[115, 111, 109, 101, 40, 119, 104, 101, 114, 101, 32, 40, 112, 95, 101, 102, 116, 32, 61, 61, 32, 97, 108, 108, 111, 119, 41, 41]⟩ : ByteArray), .slice Ao53 y132.length co53, .slice Ao54 y135.length co54, .int .i64 0, .int .i64 1] rfl (by (try simp only [List.map_toArray, List.map_cons, List.map_nil]); first | done | rfl | (simp only [List.length_drop, List.length_take]; rfl)) ?_; (with_reducible refine (impl_Merge.calls k (⟨#[115, 111, 109, 101, 40, 119, 104, 101, 114, 101, 32, 40, 112, 95, 101, 102, 116, 32, 61, 61, 32, 97, 108, 108, 111, 119, 41, 41]⟩ : ByteArray) _ _ y132 _ _ y135 0 1 t138 t139 t140 _ ?side1 ?side2 ?side3 ?side4 A1.out).mono ?_); (case side1 => repeat (first | exact (Kd.R_reads' HO134.out).2.2 | (with_reducible refine Kd.C_alloc ?_ _) | (with_reducible refine Kd.C_drewN ?_ _) | (with_reducible refine Kd.C_drew ?_))); (case side2 => exact (Kd.R_reads' HO134.out).2.1); (case side3 => repeat (first | exact (Kd.R_reads' HO137.out).2.2 | (with_reducible refine Kd.C_alloc ?_ _) | (with_reducible refine Kd.C_drewN ?_ _) | (with_reducible refine Kd.C_drew ?_))); (case side4 => exact (Kd.R_reads' HO137.out).2.1); rintro e w55 ⟨rfl, hb⟩; refine ⟨_, rfl, ?_⟩; have n0_ := Aside0.mk (Kd.R_below (by (with_reducible repeat (first | apply Kd.R_alloc | apply Kd.R_drewN | apply Kd.R_drew)); exact HO134.out) hb); have n1_ := Aside0.mk (Kd.R_below (by (with_reducible repeat (first | apply Kd.R_alloc | apply Kd.R_drewN | apply Kd.R_drew)); exact HO137.out) hb); have n2_ := Aside0.mk (below_step (by repeat (first | (with_reducible first | exact HB.out | apply below_alloc | apply pw_below_drewN | apply below_drew1) | exact HB.out)) hb); clear HO134; clear HO137; clear HB; have HO134 := n0_; have HO137 := n1_; have HB := n2_; clear n0_ n1_ n2_; (try clear hb); (try clear hb2); (try clear hk); (try clear hi)) | ((with_reducible refine gate_dst (N := 15) rfl ?_); refine Kd.R_lit (Kd.int .i64) _ 3 ?hg (N := 15) ?hd (xs := ([2] : List Int)) (inner := [.int .i64 2]) (ok := fun _ => True) (okp := fun _ => True) ?hr ?hp (fun _ hk => hk) trivial (Below.refl _ _) (Nat.le_refl _) (by simp) ?_; (case hd => rfl); (case hg => rfl); (case hr => first | (go_simp; done) | (go_simp; rfl)); (case hp => exact (Reps.one (show Kd.M (Kd.int .i64) _ _ _ 2 [.int .i64 2] from rfl) (Reps.none _ _))); intro v142 w56 ho57 hb hg_ hnew_; clear hg_ hnew_; (first | rw [← Ny141.out] at ho57 | (simp only [Int.reduceToNat] at ho57; rw [← Ny141.out] at ho57)); have n0_ := Aside0.mk (Kd.R_elder' (by (with_reducible repeat (first | apply Kd.R_alloc | apply Kd.R_drewN | apply Kd.R_drew)); exact HO134.out) (Kd.R_base ho57) hb); have n1_ := Aside0.mk (Kd.R_below (by (with_reducible repeat (first | apply Kd.R_alloc | apply Kd.R_drewN | apply Kd.R_drew)); exact HO137.out) hb); have n2_ := Aside0.mk (Kd.R_lower (Kd.R_new' ho57 (Kd.R_lt (by (with_reducible repeat (first | apply Kd.R_alloc | apply Kd.R_drewN | apply Kd.R_drew)); exact HO134.out))) (below_size (by repeat (first | (with_reducible first | exact HB.out | apply below_alloc | apply pw_below_drewN | apply below_drew1) | exact HB.out)))); have n3_ := Aside0.mk (below_step (by repeat (first | (with_reducible first | exact HB.out | apply below_alloc | apply pw_below_drewN | apply below_drew1) | exact HB.out)) hb); clear HO134; clear HO137; clear HB; have HO134 := n0_; have HO137 := n1_; have HO143 := n2_; have HB := n3_; clear n0_ n1_ n2_ n3_; clear hb ho57) | ((with_reducible refine gate_dst (N := 16) rfl ?_); refine Kd.R_lit Kd.bool _ 4 ?hg (N := 16) ?hd (xs := ([true] : List Bool)) (inner := [.bool true]) (ok := fun _ => True) (okp := fun _ => True) ?hr ?hp (fun _ hk => hk) trivial (Below.refl _ _) (Nat.le_refl _) (by simp) ?_; (case hd => rfl); (case hg => rfl); (case hr => first | (go_simp; done) | (go_simp; rfl)); (case hp => exact (Reps.one (show Kd.M Kd.bool _ _ _ true [.bool true] from rfl) (Reps.none _ _))); intro v145 w58 ho59 hb hg_ hnew_; clear hg_ hnew_; (first | rw [← Ny144.out] at ho59 | (simp only [Int.reduceToNat] at ho59; rw [← Ny144.out] at ho59)); have n0_ := Aside0.mk (Kd.R_below (by (with_reducible repeat (first | apply Kd.R_alloc | apply Kd.R_drewN | apply Kd.R_drew)); exact HO134.out) hb); have n1_ := Aside0.mk (Kd.R_elder' (by (with_reducible repeat (first | apply Kd.R_alloc | apply Kd.R_drewN | apply Kd.R_drew)); exact HO137.out) (Kd.R_base ho59) hb); have n2_ := Aside0.mk (Kd.R_below (by (with_reducible repeat (first | apply Kd.R_alloc | apply Kd.R_drewN | apply Kd.R_drew)); exact HO143.out) hb); have n3_ := Aside0.mk (Kd.R_lower (Kd.R_new' ho59 (Kd.R_lt (by (with_reducible repeat (first | apply Kd.R_alloc | apply Kd.R_drewN | apply Kd.R_drew)); exact HO137.out))) (below_size (by repeat (first | (with_reducible first | exact HB.out | apply below_alloc | apply pw_below_drewN | apply below_drew1) | exact HB.out)))); have n4_ := Aside0.mk (below_step (by repeat (first | (with_reducible first | exact HB.out | apply below_alloc | apply pw_below_drewN | apply below_drew1) | exact HB.out)) hb); clear HO134; clear HO137; clear HO143; clear HB; have HO134 := n0_; have HO137 := n1_; have HO143 := n2_; have HO146 := n3_; have HB := n4_; clear n0_ n1_ n2_ n3_ n4_; clear hb ho59; obtain ⟨Ao60, co60, eo60⟩ := Kd.R_slice HO143.out; subst eo60; obtain ⟨Ao61, co61, eo61⟩ := Kd.R_slice HO146.out; subst eo61) | ((with_reducible refine gate_callee (f := 34) rfl ?_); refine goesL_ (some 17) rfl rfl Try.func34 (by kernel_rfl) rfl #[.string (⟨#[33, 115, 111, 109, 101, 40, 119, 104, 101, 114, 101, 32, 40, 112, 95, 101, 102, 116, 32, 61, 61, 32, 100, 101, 110, 121, 41, 41]⟩ : ByteArray), .slice Ao60 y141.length co60, .slice Ao61 y144.length co61, .int .i64 0, .int .i64 1] rfl (by (try simp only [List.map_toArray, List.map_cons, List.map_nil]); first | done | rfl | (simp only [List.length_drop, List.length_take]; rfl)) ?_; (with_reducible refine (impl_Merge.calls k (⟨#[33, 115, 111, 109, 101, 40, 119, 104, 101, 114, 101, 32, 40, 112, 95, 101, 102, 116, 32, 61, 61, 32, 100, 101, 110, 121, 41, 41]⟩ : ByteArray) _ _ y141 _ _ y144 0 1 t147 t148 t149 _ ?side1 ?side2 ?side3 ?side4 A2.out).mono ?_); (case side1 => repeat (first | exact (Kd.R_reads' HO143.out).2.2 | (with_reducible refine Kd.C_alloc ?_ _) | (with_reducible refine Kd.C_drewN ?_ _) | (with_reducible refine Kd.C_drew ?_))); (case side2 => exact (Kd.R_reads' HO143.out).2.1); (case side3 => repeat (first | exact (Kd.R_reads' HO146.out).2.2 | (with_reducible refine Kd.C_alloc ?_ _) | (with_reducible refine Kd.C_drewN ?_ _) | (with_reducible refine Kd.C_drew ?_))); (case side4 => exact (Kd.R_reads' HO146.out).2.1); rintro e w62 ⟨rfl, hb⟩; refine ⟨_, rfl, ?_⟩; have n0_ := Aside0.mk (Kd.R_below (by (with_reducible repeat (first | apply Kd.R_alloc | apply Kd.R_drewN | apply Kd.R_drew)); exact HO134.out) hb); have n1_ := Aside0.mk (Kd.R_below (by (with_reducible repeat (first | apply Kd.R_alloc | apply Kd.R_drewN | apply Kd.R_drew)); exact HO137.out) hb); have n2_ := Aside0.mk (Kd.R_below (by (with_reducible repeat (first | apply Kd.R_alloc | apply Kd.R_drewN | apply Kd.R_drew)); exact HO143.out) hb); have n3_ := Aside0.mk (Kd.R_below (by (with_reducible repeat (first | apply Kd.R_alloc | apply Kd.R_drewN | apply Kd.R_drew)); exact HO146.out) hb); have n4_ := Aside0.mk (below_step (by repeat (first | (with_reducible first | exact HB.out | apply below_alloc | apply pw_below_drewN | apply below_drew1) | exact HB.out)) hb); clear HO134; clear HO137; clear HO143; clear HO146; clear HB; have HO134 := n0_; have HO137 := n1_; have HO143 := n2_; have HO146 := n3_; have HB := n4_; clear n0_ n1_ n2_ n3_ n4_; (try clear hb); (try clear hb2); (try clear hk); (try clear hi)))
      go_ret
      exact ⟨by first | rfl | (simp [errW_none, errW_some] <;> rfl) | (simp [*, errW_none, errW_some] <;> rfl), by repeat (first | (with_reducible first | exact HB.out | apply below_alloc | apply pw_below_drewN | apply below_drew1) | exact HB.out)⟩
  · rw [if_neg c3] at H
    have c3b0 : (t138 == 0) = false := beq_eq_false_iff_ne.mpr c3
    have c3b1 : (t138 != 0) = true := bne_iff_ne.mpr c3
    obtain rfl := Option.some.inj H
    go_enter Try.func29, Try.ntmps29
    go_wp2_with (first | ((with_reducible refine gate_dst (N := 8) rfl ?_); refine Kd.R_lit (Kd.int .i64) _ 3 ?hg (N := 8) ?hd (xs := ([0] : List Int)) (inner := [.int .i64 0]) (ok := fun _ => True) (okp := fun _ => True) ?hr ?hp (fun _ hk => hk) trivial (Below.refl _ _) (Nat.le_refl _) (by simp) ?_; (case hd => rfl); (case hg => rfl); (case hr => first | (go_simp; done) | (go_simp; rfl)); (case hp => exact (Reps.one (show Kd.M (Kd.int .i64) _ _ _ 0 [.int .i64 0] from rfl) (Reps.none _ _))); intro v133 w63 ho64 hb hg_ hnew_; clear hg_ hnew_; (first | rw [← Ny132.out] at ho64 | (simp only [Int.reduceToNat] at ho64; rw [← Ny132.out] at ho64)); have n0_ := Aside0.mk (Kd.R_lower ho64 (below_size (by repeat (first | (with_reducible first | exact HB.out | apply below_alloc | apply pw_below_drewN | apply below_drew1) | exact HB.out)))); have n1_ := Aside0.mk (below_step (by repeat (first | (with_reducible first | exact HB.out | apply below_alloc | apply pw_below_drewN | apply below_drew1) | exact HB.out)) hb); clear HB; have HO134 := n0_; have HB := n1_; clear n0_ n1_; clear hb ho64) | ((with_reducible refine gate_dst (N := 9) rfl ?_); refine Kd.R_lit Kd.bool _ 4 ?hg (N := 9) ?hd (xs := ([true] : List Bool)) (inner := [.bool true]) (ok := fun _ => True) (okp := fun _ => True) ?hr ?hp (fun _ hk => hk) trivial (Below.refl _ _) (Nat.le_refl _) (by simp) ?_; (case hd => rfl); (case hg => rfl); (case hr => first | (go_simp; done) | (go_simp; rfl)); (case hp => exact (Reps.one (show Kd.M Kd.bool _ _ _ true [.bool true] from rfl) (Reps.none _ _))); intro v136 w65 ho66 hb hg_ hnew_; clear hg_ hnew_; (first | rw [← Ny135.out] at ho66 | (simp only [Int.reduceToNat] at ho66; rw [← Ny135.out] at ho66)); have n0_ := Aside0.mk (Kd.R_below (by (with_reducible repeat (first | apply Kd.R_alloc | apply Kd.R_drewN | apply Kd.R_drew)); exact HO134.out) hb); have n1_ := Aside0.mk (Kd.R_lower ho66 (below_size (by repeat (first | (with_reducible first | exact HB.out | apply below_alloc | apply pw_below_drewN | apply below_drew1) | exact HB.out)))); have n2_ := Aside0.mk (below_step (by repeat (first | (with_reducible first | exact HB.out | apply below_alloc | apply pw_below_drewN | apply below_drew1) | exact HB.out)) hb); clear HO134; clear HB; have HO134 := n0_; have HO137 := n1_; have HB := n2_; clear n0_ n1_ n2_; clear hb ho66; obtain ⟨Ao67, co67, eo67⟩ := Kd.R_slice HO134.out; subst eo67; obtain ⟨Ao68, co68, eo68⟩ := Kd.R_slice HO137.out; subst eo68) | ((with_reducible refine gate_callee (f := 34) rfl ?_); refine goesL_ (some 10) rfl rfl Try.func34 (by kernel_rfl) rfl #[.string (⟨#[115, 111, 109, 101, 40, 119, 104, 101, 114, 101, 32, 40, 112, 95, 101, 102, 116, 32, 61, 61, 32, 97, 108, 108, 111, 119, 41, 41]⟩ : ByteArray), .slice Ao67 y132.length co67, .slice Ao68 y135.length co68, .int .i64 0, .int .i64 1] rfl (by (try simp only [List.map_toArray, List.map_cons, List.map_nil]); first | done | rfl | (simp only [List.length_drop, List.length_take]; rfl)) ?_; (with_reducible refine (impl_Merge.calls k (⟨#[115, 111, 109, 101, 40, 119, 104, 101, 114, 101, 32, 40, 112, 95, 101, 102, 116, 32, 61, 61, 32, 97, 108, 108, 111, 119, 41, 41]⟩ : ByteArray) _ _ y132 _ _ y135 0 1 t138 t139 t140 _ ?side1 ?side2 ?side3 ?side4 A1.out).mono ?_); (case side1 => repeat (first | exact (Kd.R_reads' HO134.out).2.2 | (with_reducible refine Kd.C_alloc ?_ _) | (with_reducible refine Kd.C_drewN ?_ _) | (with_reducible refine Kd.C_drew ?_))); (case side2 => exact (Kd.R_reads' HO134.out).2.1); (case side3 => repeat (first | exact (Kd.R_reads' HO137.out).2.2 | (with_reducible refine Kd.C_alloc ?_ _) | (with_reducible refine Kd.C_drewN ?_ _) | (with_reducible refine Kd.C_drew ?_))); (case side4 => exact (Kd.R_reads' HO137.out).2.1); rintro e w69 ⟨rfl, hb⟩; refine ⟨_, rfl, ?_⟩; have n0_ := Aside0.mk (Kd.R_below (by (with_reducible repeat (first | apply Kd.R_alloc | apply Kd.R_drewN | apply Kd.R_drew)); exact HO134.out) hb); have n1_ := Aside0.mk (Kd.R_below (by (with_reducible repeat (first | apply Kd.R_alloc | apply Kd.R_drewN | apply Kd.R_drew)); exact HO137.out) hb); have n2_ := Aside0.mk (below_step (by repeat (first | (with_reducible first | exact HB.out | apply below_alloc | apply pw_below_drewN | apply below_drew1) | exact HB.out)) hb); clear HO134; clear HO137; clear HB; have HO134 := n0_; have HO137 := n1_; have HB := n2_; clear n0_ n1_ n2_; (try clear hb); (try clear hb2); (try clear hk); (try clear hi)) | ((with_reducible refine gate_dst (N := 15) rfl ?_); refine Kd.R_lit (Kd.int .i64) _ 3 ?hg (N := 15) ?hd (xs := ([2] : List Int)) (inner := [.int .i64 2]) (ok := fun _ => True) (okp := fun _ => True) ?hr ?hp (fun _ hk => hk) trivial (Below.refl _ _) (Nat.le_refl _) (by simp) ?_; (case hd => rfl); (case hg => rfl); (case hr => first | (go_simp; done) | (go_simp; rfl)); (case hp => exact (Reps.one (show Kd.M (Kd.int .i64) _ _ _ 2 [.int .i64 2] from rfl) (Reps.none _ _))); intro v142 w70 ho71 hb hg_ hnew_; clear hg_ hnew_; (first | rw [← Ny141.out] at ho71 | (simp only [Int.reduceToNat] at ho71; rw [← Ny141.out] at ho71)); have n0_ := Aside0.mk (Kd.R_elder' (by (with_reducible repeat (first | apply Kd.R_alloc | apply Kd.R_drewN | apply Kd.R_drew)); exact HO134.out) (Kd.R_base ho71) hb); have n1_ := Aside0.mk (Kd.R_below (by (with_reducible repeat (first | apply Kd.R_alloc | apply Kd.R_drewN | apply Kd.R_drew)); exact HO137.out) hb); have n2_ := Aside0.mk (Kd.R_lower (Kd.R_new' ho71 (Kd.R_lt (by (with_reducible repeat (first | apply Kd.R_alloc | apply Kd.R_drewN | apply Kd.R_drew)); exact HO134.out))) (below_size (by repeat (first | (with_reducible first | exact HB.out | apply below_alloc | apply pw_below_drewN | apply below_drew1) | exact HB.out)))); have n3_ := Aside0.mk (below_step (by repeat (first | (with_reducible first | exact HB.out | apply below_alloc | apply pw_below_drewN | apply below_drew1) | exact HB.out)) hb); clear HO134; clear HO137; clear HB; have HO134 := n0_; have HO137 := n1_; have HO143 := n2_; have HB := n3_; clear n0_ n1_ n2_ n3_; clear hb ho71) | ((with_reducible refine gate_dst (N := 16) rfl ?_); refine Kd.R_lit Kd.bool _ 4 ?hg (N := 16) ?hd (xs := ([true] : List Bool)) (inner := [.bool true]) (ok := fun _ => True) (okp := fun _ => True) ?hr ?hp (fun _ hk => hk) trivial (Below.refl _ _) (Nat.le_refl _) (by simp) ?_; (case hd => rfl); (case hg => rfl); (case hr => first | (go_simp; done) | (go_simp; rfl)); (case hp => exact (Reps.one (show Kd.M Kd.bool _ _ _ true [.bool true] from rfl) (Reps.none _ _))); intro v145 w72 ho73 hb hg_ hnew_; clear hg_ hnew_; (first | rw [← Ny144.out] at ho73 | (simp only [Int.reduceToNat] at ho73; rw [← Ny144.out] at ho73)); have n0_ := Aside0.mk (Kd.R_below (by (with_reducible repeat (first | apply Kd.R_alloc | apply Kd.R_drewN | apply Kd.R_drew)); exact HO134.out) hb); have n1_ := Aside0.mk (Kd.R_elder' (by (with_reducible repeat (first | apply Kd.R_alloc | apply Kd.R_drewN | apply Kd.R_drew)); exact HO137.out) (Kd.R_base ho73) hb); have n2_ := Aside0.mk (Kd.R_below (by (with_reducible repeat (first | apply Kd.R_alloc | apply Kd.R_drewN | apply Kd.R_drew)); exact HO143.out) hb); have n3_ := Aside0.mk (Kd.R_lower (Kd.R_new' ho73 (Kd.R_lt (by (with_reducible repeat (first | apply Kd.R_alloc | apply Kd.R_drewN | apply Kd.R_drew)); exact HO137.out))) (below_size (by repeat (first | (with_reducible first | exact HB.out | apply below_alloc | apply pw_below_drewN | apply below_drew1) | exact HB.out)))); have n4_ := Aside0.mk (below_step (by repeat (first | (with_reducible first | exact HB.out | apply below_alloc | apply pw_below_drewN | apply below_drew1) | exact HB.out)) hb); clear HO134; clear HO137; clear HO143; clear HB; have HO134 := n0_; have HO137 := n1_; have HO143 := n2_; have HO146 := n3_; have HB := n4_; clear n0_ n1_ n2_ n3_ n4_; clear hb ho73; obtain ⟨Ao74, co74, eo74⟩ := Kd.R_slice HO143.out; subst eo74; obtain ⟨Ao75, co75, eo75⟩ := Kd.R_slice HO146.out; subst eo75) | ((with_reducible refine gate_callee (f := 34) rfl ?_); refine goesL_ (some 17) rfl rfl Try.func34 (by kernel_rfl) rfl #[.string (⟨#[33, 115, 111, 109, 101, 40, 119, 104, 101, 114, 101, 32, 40, 112, 95, 101, 102, 116, 32, 61, 61, 32, 100, 101, 110, 121, 41, 41]⟩ : ByteArray), .slice Ao74 y141.length co74, .slice Ao75 y144.length co75, .int .i64 0, .int .i64 1] rfl (by (try simp only [List.map_toArray, List.map_cons, List.map_nil]); first | done | rfl | (simp only [List.length_drop, List.length_take]; rfl)) ?_; (with_reducible refine (impl_Merge.calls k (⟨#[33, 115, 111, 109, 101, 40, 119, 104, 101, 114, 101, 32, 40, 112, 95, 101, 102, 116, 32, 61, 61, 32, 100, 101, 110, 121, 41, 41]⟩ : ByteArray) _ _ y141 _ _ y144 0 1 t147 t148 t149 _ ?side1 ?side2 ?side3 ?side4 A2.out).mono ?_); (case side1 => repeat (first | exact (Kd.R_reads' HO143.out).2.2 | (with_reducible refine Kd.C_alloc ?_ _) | (with_reducible refine Kd.C_drewN ?_ _) | (with_reducible refine Kd.C_drew ?_))); (case side2 => exact (Kd.R_reads' HO143.out).2.1); (case side3 => repeat (first | exact (Kd.R_reads' HO146.out).2.2 | (with_reducible refine Kd.C_alloc ?_ _) | (with_reducible refine Kd.C_drewN ?_ _) | (with_reducible refine Kd.C_drew ?_))); (case side4 => exact (Kd.R_reads' HO146.out).2.1); rintro e w76 ⟨rfl, hb⟩; refine ⟨_, rfl, ?_⟩; have n0_ := Aside0.mk (Kd.R_below (by (with_reducible repeat (first | apply Kd.R_alloc | apply Kd.R_drewN | apply Kd.R_drew)); exact HO134.out) hb); have n1_ := Aside0.mk (Kd.R_below (by (with_reducible repeat (first | apply Kd.R_alloc | apply Kd.R_drewN | apply Kd.R_drew)); exact HO137.out) hb); have n2_ := Aside0.mk (Kd.R_below (by (with_reducible repeat (first | apply Kd.R_alloc | apply Kd.R_drewN | apply Kd.R_drew)); exact HO143.out) hb); have n3_ := Aside0.mk (Kd.R_below (by (with_reducible repeat (first | apply Kd.R_alloc | apply Kd.R_drewN | apply Kd.R_drew)); exact HO146.out) hb); have n4_ := Aside0.mk (below_step (by repeat (first | (with_reducible first | exact HB.out | apply below_alloc | apply pw_below_drewN | apply below_drew1) | exact HB.out)) hb); clear HO134; clear HO137; clear HO143; clear HO146; clear HB; have HO134 := n0_; have HO137 := n1_; have HO143 := n2_; have HO146 := n3_; have HB := n4_; clear n0_ n1_ n2_ n3_ n4_; (try clear hb); (try clear hb2); (try clear hk); (try clear hi)))
    go_ret
    exact ⟨by first | rfl | (simp [errW_none, errW_some] <;> rfl) | (simp [*, errW_none, errW_some] <;> rfl), by repeat (first | (with_reducible first | exact HB.out | apply below_alloc | apply pw_below_drewN | apply below_drew1) | exact HB.out)⟩

/-! ### spec_Expressions: function 33 -/
def spec_Expressions.f  : Option (List ByteArray) := some (([(⟨#[115, 111, 109, 101, 40, 119, 104, 101, 114, 101, 32, 40, 112, 95, 101, 102, 116, 32, 61, 61, 32, 97, 108, 108, 111, 119, 41, 41]⟩ : ByteArray), (⟨#[33, 115, 111, 109, 101, 40, 119, 104, 101, 114, 101, 32, 40, 112, 95, 101, 102, 116, 32, 61, 61, 32, 100, 101, 110, 121, 41, 41]⟩ : ByteArray), (⟨#[115, 111, 109, 101, 40, 119, 104, 101, 114, 101, 32, 40, 112, 95, 101, 102, 116, 32, 61, 61, 32, 97, 108, 108, 111, 119, 41, 41, 32, 38, 38, 32, 33, 115, 111, 109, 101, 40, 119, 104, 101, 114, 101, 32, 40, 112, 95, 101, 102, 116, 32, 61, 61, 32, 100, 101, 110, 121, 41, 41]⟩ : ByteArray), (⟨#[112, 114, 105, 111, 114, 105, 116, 121, 40, 112, 95, 101, 102, 116, 41, 32, 124, 124, 32, 100, 101, 110, 121]⟩ : ByteArray), (⟨#[115, 117, 98, 106, 101, 99, 116, 80, 114, 105, 111, 114, 105, 116, 121, 40, 112, 95, 101, 102, 116, 41, 32, 124, 124, 32, 100, 101, 110, 121]⟩ : ByteArray)] : List ByteArray))
set_option maxHeartbeats 8000000 in
set_option maxRecDepth 100000 in
theorem spec_Expressions.calls  (r : List ByteArray) (w : World) (h : spec_Expressions.f  = some r) :
    Calls Try.prog 33 #[] w fun e w' => ∃ v0_ : Value, e = .returned (v0_) ∧ Kd.R Kd.string 9 w' w.heap.size (fun _ => True) v0_ r ∧ Below w.heap.size w w' := by
  have HB := Aside0.mk (Below.refl w.heap.size w)
  have H : (some (([(⟨#[115, 111, 109, 101, 40, 119, 104, 101, 114, 101, 32, 40, 112, 95, 101, 102, 116, 32, 61, 61, 32, 97, 108, 108, 111, 119, 41, 41]⟩ : ByteArray), (⟨#[33, 115, 111, 109, 101, 40, 119, 104, 101, 114, 101, 32, 40, 112, 95, 101, 102, 116, 32, 61, 61, 32, 100, 101, 110, 121, 41, 41]⟩ : ByteArray), (⟨#[115, 111, 109, 101, 40, 119, 104, 101, 114, 101, 32, 40, 112, 95, 101, 102, 116, 32, 61, 61, 32, 97, 108, 108, 111, 119, 41, 41, 32, 38, 38, 32, 33, 115, 111, 109, 101, 40, 119, 104, 101, 114, 101, 32, 40, 112, 95, 101, 102, 116, 32, 61, 61, 32, 100, 101, 110, 121, 41, 41]⟩ : ByteArray), (⟨#[112, 114, 105, 111, 114, 105, 116, 121, 40, 112, 95, 101, 102, 116, 41, 32, 124, 124, 32, 100, 101, 110, 121]⟩ : ByteArray), (⟨#[115, 117, 98, 106, 101, 99, 116, 80, 114, 105, 111, 114, 105, 116, 121, 40, 112, 95, 101, 102, 116, 41, 32, 124, 124, 32, 100, 101, 110, 121]⟩ : ByteArray)] : List ByteArray))) = some r := h
  clear h
  obtain ⟨y150, hy150⟩ : ∃ y_ : List ByteArray, y_ = (([(⟨#[115, 111, 109, 101, 40, 119, 104, 101, 114, 101, 32, 40, 112, 95, 101, 102, 116, 32, 61, 61, 32, 97, 108, 108, 111, 119, 41, 41]⟩ : ByteArray), (⟨#[33, 115, 111, 109, 101, 40, 119, 104, 101, 114, 101, 32, 40, 112, 95, 101, 102, 116, 32, 61, 61, 32, 100, 101, 110, 121, 41, 41]⟩ : ByteArray), (⟨#[115, 111, 109, 101, 40, 119, 104, 101, 114, 101, 32, 40, 112, 95, 101, 102, 116, 32, 61, 61, 32, 97, 108, 108, 111, 119, 41, 41, 32, 38, 38, 32, 33, 115, 111, 109, 101, 40, 119, 104, 101, 114, 101, 32, 40, 112, 95, 101, 102, 116, 32, 61, 61, 32, 100, 101, 110, 121, 41, 41]⟩ : ByteArray), (⟨#[112, 114, 105, 111, 114, 105, 116, 121, 40, 112, 95, 101, 102, 116, 41, 32, 124, 124, 32, 100, 101, 110, 121]⟩ : ByteArray), (⟨#[115, 117, 98, 106, 101, 99, 116, 80, 114, 105, 111, 114, 105, 116, 121, 40, 112, 95, 101, 102, 116, 41, 32, 124, 124, 32, 100, 101, 110, 121]⟩ : ByteArray)] : List ByteArray)) := ⟨_, rfl⟩
  replace H : (some y150) = some r := by first | (rw [hy150]; with_reducible exact H) | (have H2_ := (Option.bind_some _ _).symm.trans H; rw [hy150]; with_reducible exact H2_) | (have H2_ := (Option.bind_some _ _).symm.trans H; with_reducible exact H2_) | with_reducible exact H | (rw [hy150]; exact H) | exact H
  have Ny150 := Aside0.mk hy150
  clear hy150
  obtain rfl := Option.some.inj H
  go_enter Try.func33, Try.ntmps33
  go_wp2_with (first | ((with_reducible refine gate_dst (N := 1) rfl ?_); refine Kd.R_lit Kd.string _ 9 ?hg (N := 1) ?hd (xs := ([(⟨#[115, 111, 109, 101, 40, 119, 104, 101, 114, 101, 32, 40, 112, 95, 101, 102, 116, 32, 61, 61, 32, 97, 108, 108, 111, 119, 41, 41]⟩ : ByteArray), (⟨#[33, 115, 111, 109, 101, 40, 119, 104, 101, 114, 101, 32, 40, 112, 95, 101, 102, 116, 32, 61, 61, 32, 100, 101, 110, 121, 41, 41]⟩ : ByteArray), (⟨#[115, 111, 109, 101, 40, 119, 104, 101, 114, 101, 32, 40, 112, 95, 101, 102, 116, 32, 61, 61, 32, 97, 108, 108, 111, 119, 41, 41, 32, 38, 38, 32, 33, 115, 111, 109, 101, 40, 119, 104, 101, 114, 101, 32, 40, 112, 95, 101, 102, 116, 32, 61, 61, 32, 100, 101, 110, 121, 41, 41]⟩ : ByteArray), (⟨#[112, 114, 105, 111, 114, 105, 116, 121, 40, 112, 95, 101, 102, 116, 41, 32, 124, 124, 32, 100, 101, 110, 121]⟩ : ByteArray), (⟨#[115, 117, 98, 106, 101, 99, 116, 80, 114, 105, 111, 114, 105, 116, 121, 40, 112, 95, 101, 102, 116, 41, 32, 124, 124, 32, 100, 101, 110, 121]⟩ : ByteArray)] : List ByteArray)) (inner := [.string (⟨#[115, 111, 109, 101, 40, 119, 104, 101, 114, 101, 32, 40, 112, 95, 101, 102, 116, 32, 61, 61, 32, 97, 108, 108, 111, 119, 41, 41]⟩ : ByteArray), .string (⟨#[33, 115, 111, 109, 101, 40, 119, 104, 101, 114, 101, 32, 40, 112, 95, 101, 102, 116, 32, 61, 61, 32, 100, 101, 110, 121, 41, 41]⟩ : ByteArray), .string (⟨#[115, 111, 109, 101, 40, 119, 104, 101, 114, 101, 32, 40, 112, 95, 101, 102, 116, 32, 61, 61, 32, 97, 108, 108, 111, 119, 41, 41, 32, 38, 38, 32, 33, 115, 111, 109, 101, 40, 119, 104, 101, 114, 101, 32, 40, 112, 95, 101, 102, 116, 32, 61, 61, 32, 100, 101, 110, 121, 41, 41]⟩ : ByteArray), .string (⟨#[112, 114, 105, 111, 114, 105, 116, 121, 40, 112, 95, 101, 102, 116, 41, 32, 124, 124, 32, 100, 101, 110, 121]⟩ : ByteArray), .string (⟨#[115, 117, 98, 106, 101, 99, 116, 80, 114, 105, 111, 114, 105, 116, 121, 40, 112, 95, 101, 102, 116, 41, 32, 124, 124, 32, 100, 101, 110, 121]⟩ : ByteArray)]) (ok := fun _ => True) (okp := fun _ => True) ?hr ?hp (fun _ hk => hk) trivial (Below.refl _ _) (Nat.le_refl _) (by simp) ?_; (case hd => rfl); (case hg => rfl); (case hr => first | (go_simp; done) | (go_simp; rfl)); (case hp => exact (Reps.one (show Kd.M Kd.string _ _ _ (⟨#[115, 111, 109, 101, 40, 119, 104, 101, 114, 101, 32, 40, 112, 95, 101, 102, 116, 32, 61, 61, 32, 97, 108, 108, 111, 119, 41, 41]⟩ : ByteArray) [.string (⟨#[115, 111, 109, 101, 40, 119, 104, 101, 114, 101, 32, 40, 112, 95, 101, 102, 116, 32, 61, 61, 32, 97, 108, 108, 111, 119, 41, 41]⟩ : ByteArray)] from rfl) (Reps.one (show Kd.M Kd.string _ _ _ (⟨#[33, 115, 111, 109, 101, 40, 119, 104, 101, 114, 101, 32, 40, 112, 95, 101, 102, 116, 32, 61, 61, 32, 100, 101, 110, 121, 41, 41]⟩ : ByteArray) [.string (⟨#[33, 115, 111, 109, 101, 40, 119, 104, 101, 114, 101, 32, 40, 112, 95, 101, 102, 116, 32, 61, 61, 32, 100, 101, 110, 121, 41, 41]⟩ : ByteArray)] from rfl) (Reps.one (show Kd.M Kd.string _ _ _ (⟨#[115, 111, 109, 101, 40, 119, 104, 101, 114, 101, 32, 40, 112, 95, 101, 102, 116, 32, 61, 61, 32, 97, 108, 108, 111, 119, 41, 41, 32, 38, 38, 32, 33, 115, 111, 109, 101, 40, 119, 104, 101, 114, 101, 32, 40, 112, 95, 101, 102, 116, 32, 61, 61, 32, 100, 101, 110, 121, 41, 41]⟩ : ByteArray) [.string (⟨#[115, 111, 109, 101, 40, 119, 104, 101, 114, 101, 32, 40, 112, 95, 101, 102, 116, 32, 61, 61, 32, 97, 108, 108, 111, 119, 41, 41, 32, 38, 38, 32, 33, 115, 111, 109, 101, 40, 119, 104, 101, 114, 101, 32, 40, 112, 95, 101, 102, 116, 32, 61, 61, 32, 100, 101, 110, 121, 41, 41]⟩ : ByteArray)] from rfl) (Reps.one (show Kd.M Kd.string _ _ _ (⟨#[112, 114, 105, 111, 114, 105, 116, 121, 40, 112, 95, 101, 102, 116, 41, 32, 124, 124, 32, 100, 101, 110, 121]⟩ : ByteArray) [.string (⟨#[112, 114, 105, 111, 114, 105, 116, 121, 40, 112, 95, 101, 102, 116, 41, 32, 124, 124, 32, 100, 101, 110, 121]⟩ : ByteArray)] from rfl) (Reps.one (show Kd.M Kd.string _ _ _ (⟨#[115, 117, 98, 106, 101, 99, 116, 80, 114, 105, 111, 114, 105, 116, 121, 40, 112, 95, 101, 102, 116, 41, 32, 124, 124, 32, 100, 101, 110, 121]⟩ : ByteArray) [.string (⟨#[115, 117, 98, 106, 101, 99, 116, 80, 114, 105, 111, 114, 105, 116, 121, 40, 112, 95, 101, 102, 116, 41, 32, 124, 124, 32, 100, 101, 110, 121]⟩ : ByteArray)] from rfl) (Reps.none _ _))))))); intro v151 w1 ho2 hb hg_ hnew_; clear hg_ hnew_; (first | rw [← Ny150.out] at ho2 | (simp only [Int.reduceToNat] at ho2; rw [← Ny150.out] at ho2)); have n0_ := Aside0.mk (Kd.R_lower ho2 (below_size (by repeat (first | (with_reducible first | exact HB.out | apply below_alloc | apply pw_below_drewN | apply below_drew1) | exact HB.out)))); have n1_ := Aside0.mk (below_step (by repeat (first | (with_reducible first | exact HB.out | apply below_alloc | apply pw_below_drewN | apply below_drew1) | exact HB.out)) hb); clear HB; have HO152 := n0_; have HB := n1_; clear n0_ n1_; clear hb ho2))
  go_ret
  exact ⟨_, by first | rfl | (simp [errW_none, errW_some] <;> rfl) | (simp [*, errW_none, errW_some] <;> rfl), by (with_reducible repeat (first | apply Kd.R_alloc | apply Kd.R_drewN | apply Kd.R_drew)); exact HO152.out, by repeat (first | (with_reducible first | exact HB.out | apply below_alloc | apply pw_below_drewN | apply below_drew1) | exact HB.out)⟩

/-! ### laws_FnMergeStranger: function 12 -/
mutual
def laws_FnMergeStranger.j0 : Nat → ByteArray → List Int → List Bool → Bool → Option (Bool)
  | 0, _, _, _, _ => none
  | k + 1, x0, x1, x2, x24 => if x24 = true then (some true) else ((spec_Expressions.f).bind fun t153 => (laws_FnMergeStranger.l0 k x0 x1 x2 t153 0))
def laws_FnMergeStranger.l0 : Nat → ByteArray → List Int → List Bool → List ByteArray → Int → Option (Bool)
  | 0, _, _, _, _, _ => none
  | k + 1, x0, x1, x2, x7, x8 => if x8 < (x7.length : Int) then (if 0 ≤ x8 then (if (rdOf ByteArray.empty x7 x8).toList = x0.toList then ((laws_awakeMerge.f k).bind fun t157 => (some t157)) else (laws_FnMergeStranger.l0 k x0 x1 x2 x7 (wrap64 (x8 + 1)))) else (none)) else ((laws_effects.f k x1 x2).bind fun t158 => (if t158 = true then (laws_FnMergeStranger.j2 k x0 x1 x2 (decide ((x0.size : Int) > 300))) else (laws_FnMergeStranger.j2 k x0 x1 x2 true)))
def laws_FnMergeStranger.j2 : Nat → ByteArray → List Int → List Bool → Bool → Option (Bool)
  | 0, _, _, _, _ => none
  | k + 1, x0, x1, x2, x47 => if x47 = true then ((laws_awakeMerge.f k).bind fun t159 => (some t159)) else ((some (([] : List Int) : List Int)).bind fun y160 => (if y160.length + x1.length < 17592186044416 then ((some (([] : List Bool) : List Bool)).bind fun y166 => (if y166.length + x2.length < 140737488355328 then ((impl_Merge.f k x0 (y160 ++ x1) (y166 ++ x2) 0 (x1.length : Int)).bind fun bt172 => (if bt172.2.2 = 0 then (some false) else ((laws_awakeMerge.f k).bind fun t175 => (some t175)))) else (none))) else (none)))
end
def laws_FnMergeStranger.f (k : Nat) (a0 : ByteArray) (l1 : List Int) (l2 : List Bool) : Option (Bool) := if (a0.size : Int) > 2147483647 then (laws_FnMergeStranger.j0 k a0 l1 l2 true) else (if (l1.length : Int) > 2147483647 then (laws_FnMergeStranger.j0 k a0 l1 l2 true) else (laws_FnMergeStranger.j0 k a0 l1 l2 (decide ((l2.length : Int) > 2147483647))))
theorem laws_FnMergeStranger.mono_l : ∀ k, (∀ y0 y1 y2 y3, LeO (laws_FnMergeStranger.j0 k y0 y1 y2 y3) (laws_FnMergeStranger.j0 (k + 1) y0 y1 y2 y3)) ∧ (∀ y0 y1 y2 y3 y4, LeO (laws_FnMergeStranger.l0 k y0 y1 y2 y3 y4) (laws_FnMergeStranger.l0 (k + 1) y0 y1 y2 y3 y4)) ∧ (∀ y0 y1 y2 y3, LeO (laws_FnMergeStranger.j2 k y0 y1 y2 y3) (laws_FnMergeStranger.j2 (k + 1) y0 y1 y2 y3))
  | 0 => ⟨fun _ _ _ _ r h => by simp [laws_FnMergeStranger.j0] at h, fun _ _ _ _ _ r h => by simp [laws_FnMergeStranger.l0] at h, fun _ _ _ _ r h => by simp [laws_FnMergeStranger.j2] at h⟩
  | k + 1 => by
    obtain ⟨ih0, ih1, ih2⟩ := laws_FnMergeStranger.mono_l k
    refine ⟨?_, ?_, ?_⟩
    · intro y0 y1 y2 y3
      unfold laws_FnMergeStranger.j0
      repeat' first
      | (with_reducible exact ih0 _ _ _ _)
      | (with_reducible exact ih1 _ _ _ _ _)
      | (with_reducible exact ih2 _ _ _ _)
      | (with_reducible exact impl_Merge.mono _ _ _ _ _ _)
      | (with_reducible exact laws_awakeMerge.mono _)
      | (with_reducible exact laws_effects.mono _ _ _)
      | (with_reducible exact LeO.refl _)
      | (with_reducible exact LeO.none _)
      | (with_reducible refine LeO.ite ?_ ?_)
      | (with_reducible refine LeO.bind ?_ (fun _ => ?_))
      | exact ih0 _ _ _ _
      | exact ih1 _ _ _ _ _
      | exact ih2 _ _ _ _
      | exact impl_Merge.mono _ _ _ _ _ _
      | exact laws_awakeMerge.mono _
      | exact laws_effects.mono _ _ _
      | exact LeO.none _
      | refine LeO.ite ?_ ?_
      | refine LeO.bind ?_ (fun _ => ?_)
    · intro y0 y1 y2 y3 y4
      unfold laws_FnMergeStranger.l0
      repeat' first
      | (with_reducible exact ih0 _ _ _ _)
      | (with_reducible exact ih1 _ _ _ _ _)
      | (with_reducible exact ih2 _ _ _ _)
      | (with_reducible exact impl_Merge.mono _ _ _ _ _ _)
      | (with_reducible exact laws_awakeMerge.mono _)
      | (with_reducible exact laws_effects.mono _ _ _)
      | (with_reducible exact LeO.refl _)
      | (with_reducible exact LeO.none _)
      | (with_reducible refine LeO.ite ?_ ?_)
      | (with_reducible refine LeO.bind ?_ (fun _ => ?_))
      | exact ih0 _ _ _ _
      | exact ih1 _ _ _ _ _
      | exact ih2 _ _ _ _
      | exact impl_Merge.mono _ _ _ _ _ _
      | exact laws_awakeMerge.mono _
      | exact laws_effects.mono _ _ _
      | exact LeO.none _
      | refine LeO.ite ?_ ?_
      | refine LeO.bind ?_ (fun _ => ?_)
    · intro y0 y1 y2 y3
      unfold laws_FnMergeStranger.j2
      repeat' first
      | (with_reducible exact ih0 _ _ _ _)
      | (with_reducible exact ih1 _ _ _ _ _)
      | (with_reducible exact ih2 _ _ _ _)
      | (with_reducible exact impl_Merge.mono _ _ _ _ _ _)
      | (with_reducible exact laws_awakeMerge.mono _)
      | (with_reducible exact laws_effects.mono _ _ _)
      | (with_reducible exact LeO.refl _)
      | (with_reducible exact LeO.none _)
      | (with_reducible refine LeO.ite ?_ ?_)
      | (with_reducible refine LeO.bind ?_ (fun _ => ?_))
      | exact ih0 _ _ _ _
      | exact ih1 _ _ _ _ _
      | exact ih2 _ _ _ _
      | exact impl_Merge.mono _ _ _ _ _ _
      | exact laws_awakeMerge.mono _
      | exact laws_effects.mono _ _ _
      | exact LeO.none _
      | refine LeO.ite ?_ ?_
      | refine LeO.bind ?_ (fun _ => ?_)
theorem laws_FnMergeStranger.mono : ∀ a0 a1 a2 k, LeO (laws_FnMergeStranger.f k a0 a1 a2) (laws_FnMergeStranger.f (k + 1) a0 a1 a2) := by
  intro a0 a1 a2 k
  obtain ⟨ih0, ih1, ih2⟩ := laws_FnMergeStranger.mono_l k
  unfold laws_FnMergeStranger.f
  repeat' first
      | (with_reducible exact ih0 _ _ _ _)
      | (with_reducible exact ih1 _ _ _ _ _)
      | (with_reducible exact ih2 _ _ _ _)
      | (with_reducible exact impl_Merge.mono _ _ _ _ _ _)
      | (with_reducible exact laws_awakeMerge.mono _)
      | (with_reducible exact laws_effects.mono _ _ _)
      | (with_reducible exact LeO.refl _)
      | (with_reducible exact LeO.none _)
      | (with_reducible refine LeO.ite ?_ ?_)
      | (with_reducible refine LeO.bind ?_ (fun _ => ?_))
      | exact ih0 _ _ _ _
      | exact ih1 _ _ _ _ _
      | exact ih2 _ _ _ _
      | exact impl_Merge.mono _ _ _ _ _ _
      | exact laws_awakeMerge.mono _
      | exact laws_effects.mono _ _ _
      | exact LeO.none _
      | refine LeO.ite ?_ ?_
      | refine LeO.bind ?_ (fun _ => ?_)
set_option maxHeartbeats 8000000 in
set_option maxRecDepth 100000 in
theorem laws_FnMergeStranger.calls (k : Nat) (a0 : ByteArray) (A1 : Option Addr) (c1 : Nat) (l1 : List Int) (A2 : Option Addr) (c2 : Nat) (l2 : List Bool) (r : Bool) (w : World) (hr1 : Kd.C (Kd.int .i64) w A1 l1.length l1) (hc1 : l1.length ≤ c1) (hr2 : Kd.C Kd.bool w A2 l2.length l2) (hc2 : l2.length ≤ c2) (h : laws_FnMergeStranger.f k a0 l1 l2 = some r) :
    Calls Try.prog 12 #[.string a0, .slice A1 l1.length c1, .slice A2 l2.length c2] w fun e w' => e = .returned (.bool r) ∧ Below w.heap.size w w' := by
  have HR1 := Aside0.mk hr1
  have HC1 := Aside0.mk hc1
  clear hr1 hc1
  have HR2 := Aside0.mk hr2
  have HC2 := Aside0.mk hc2
  clear hr2 hc2
  have HB := Aside0.mk (Below.refl w.heap.size w)
  have H : (if (a0.size : Int) > 2147483647 then (laws_FnMergeStranger.j0 k a0 l1 l2 true) else (if (l1.length : Int) > 2147483647 then (laws_FnMergeStranger.j0 k a0 l1 l2 true) else (laws_FnMergeStranger.j0 k a0 l1 l2 (decide ((l2.length : Int) > 2147483647))))) = some r := h
  clear h
  have HC4 := Aside0.mk H
  clear H
  go_enter Try.func12, Try.ntmps12
  go_upto_region 1 with (fail)
  go_cut [24] (fun v24 wc => ∃ (kq : Nat) (x24_3 : Bool), v24 = .bool x24_3 ∧ Aside0 (laws_FnMergeStranger.j0 kq a0 l1 l2 x24_3 = some r) ∧ Aside0 (kq ≤ k) ∧ Aside0 (Below w.heap.size w wc))
  case first =>
    have H := HC4.out
    clear HC4
    by_cases c5 : (a0.size : Int) > 2147483647
    · rw [if_pos c5] at H
      have c5b0 : decide (2147483647 < (a0.size : Int)) = true := decide_eq_true c5
      have c5b1 : decide (2147483647 < a0.size) = true := decide_eq_true (by omega)
      clear c5
      (first | rw [c5b0] | (simp only [i64_w, i32_w]; rw [c5b0]) | skip)
      have H' := Aside0.mk H
      clear H
      go_wp2
      go_meet
      case rel => exact ⟨_, (true), (by first | rfl | (simp; done) | (simp [*]; done)), H', ⟨by first | omega | exact Nat.le_refl _⟩, ⟨by repeat (first | (with_reducible first | exact HB.out | apply below_alloc | apply pw_below_drewN | apply below_drew1) | exact HB.out)⟩⟩
    · rw [if_neg c5] at H
      have c5b0 : decide (2147483647 < (a0.size : Int)) = false := decide_eq_false c5
      have c5b1 : decide (2147483647 < a0.size) = false := decide_eq_false (by omega)
      clear c5
      (first | rw [c5b0] | (simp only [i64_w, i32_w]; rw [c5b0]) | skip)
      by_cases c6 : (l1.length : Int) > 2147483647
      · rw [if_pos c6] at H
        have c6b0 : decide (2147483647 < (l1.length : Int)) = true := decide_eq_true c6
        have c6b1 : decide (2147483647 < l1.length) = true := decide_eq_true (by omega)
        clear c6
        have H' := Aside0.mk H
        clear H
        go_wp2
        go_meet
        case rel => exact ⟨_, (true), (by first | rfl | (simp; done) | (simp [*]; done)), H', ⟨by first | omega | exact Nat.le_refl _⟩, ⟨by repeat (first | (with_reducible first | exact HB.out | apply below_alloc | apply pw_below_drewN | apply below_drew1) | exact HB.out)⟩⟩
      · rw [if_neg c6] at H
        have c6b0 : decide (2147483647 < (l1.length : Int)) = false := decide_eq_false c6
        have c6b1 : decide (2147483647 < l1.length) = false := decide_eq_false (by omega)
        clear c6
        have H' := Aside0.mk H
        clear H
        go_wp2
        go_meet
        case rel => exact ⟨_, (decide ((l2.length : Int) > 2147483647)), (by first | rfl | (simp; done) | (simp [*]; done)), H', ⟨by first | omega | exact Nat.le_refl _⟩, ⟨by repeat (first | (with_reducible first | exact HB.out | apply below_alloc | apply pw_below_drewN | apply below_drew1) | exact HB.out)⟩⟩
  case rest =>
    clear HC4
    try clear c1
    try clear c2
    try clear p2
    try clear c5
    try clear c5b0
    try clear c5b1
    try clear c6
    try clear c6b0
    try clear c6b1
    obtain ⟨kq, x24_3, rfl, HA, HJ3, HB⟩ := hcut
    cases kq with
    | zero => exact absurd HA.out (by simp [laws_FnMergeStranger.j0])
    | succ kj3 =>
      have H := HA.out
      clear HA
      simp only [laws_FnMergeStranger.j0] at H
      by_cases c7 : x24_3 = true
      · subst c7
        have H1 : (some true) = some r := by rw [if_pos rfl] at H; exact H
        clear H
        have H := H1
        clear H1
        obtain rfl := Option.some.inj H
        go_wp2
        go_ret
        exact ⟨by first | rfl | (simp [errW_none, errW_some] <;> rfl) | (simp [*, errW_none, errW_some] <;> rfl), by repeat (first | (with_reducible first | exact HB.out | apply below_alloc | apply pw_below_drewN | apply below_drew1) | exact HB.out)⟩
      · replace c7 := Bool.eq_false_iff.mpr c7
        subst c7
        have H1 : ((spec_Expressions.f).bind fun t153 => (laws_FnMergeStranger.l0 kj3 a0 l1 l2 t153 0)) = some r := by rw [if_neg (show ¬ (false = true) by decide)] at H; exact H
        clear H
        have H := H1
        clear H1
        replace H := Option.bind_eq_some_iff.mp H
        obtain ⟨t153, A80, H⟩ := H
        replace H : (laws_FnMergeStranger.l0 kj3 a0 l1 l2 t153 0) = some r := H
        have A8 := Aside0.mk A80
        clear A80
        have H' := Aside0.mk H
        clear H
        go_wp2_with (first | ((with_reducible refine gate_callee (f := 33) rfl ?_); refine goesL_ (some 25) rfl rfl Try.func33 (by kernel_rfl) rfl #[] rfl (by (try simp only [List.map_toArray, List.map_cons, List.map_nil]); first | done | rfl | (simp only [List.length_drop, List.length_take]; rfl)) ?_; (with_reducible refine (spec_Expressions.calls  t153 _ A8.out).mono ?_); rintro e w9 ⟨v154, rfl, ho0, hb⟩; refine ⟨_, rfl, ?_⟩; have n0_ := Aside0.mk (Kd.R_lower ho0 (below_size (by repeat (first | (with_reducible first | exact HB.out | apply below_alloc | apply pw_below_drewN | apply below_drew1) | exact HB.out)))); have n1_ := Aside0.mk (below_step (by repeat (first | (with_reducible first | exact HB.out | apply below_alloc | apply pw_below_drewN | apply below_drew1) | exact HB.out)) hb); clear HB; have HO155 := n0_; have HB := n1_; clear n0_ n1_; (try clear hb); (try clear hb2); (try clear hk); (try clear hi); (try clear ho0)))
        go_loopg [8] kj3 (fun kq v8 w' => ∃ (x8_2 : Int), v8 = .int .i64 x8_2 ∧ Aside0 (laws_FnMergeStranger.l0 kq a0 l1 l2 t153 x8_2 = some r) ∧ Aside0 (kq ≤ kj3) ∧ Aside0 (Kd.R Kd.string 9 w' w.heap.size (fun _ => True) v154 t153) ∧ Aside0 (Below w.heap.size w w'))
        case atStart => exact ⟨(0), (by first | rfl | (simp; done) | (simp [*]; done)), H', ⟨Nat.le_refl _⟩, ⟨by (with_reducible repeat (first | apply Kd.R_alloc | apply Kd.R_drewN | apply Kd.R_drew)); exact HO155.out⟩, ⟨by repeat (first | (with_reducible first | exact HB.out | apply below_alloc | apply pw_below_drewN | apply below_drew1) | exact HB.out)⟩⟩
        case round =>
          clear H'
          try clear c1
          try clear c2
          try clear p2
          try clear c3
          try clear c5
          try clear c5b0
          try clear c5b1
          try clear c6
          try clear c6b0
          try clear c6b1
          try clear c7
          try clear p2
          obtain ⟨x8_2, rfl, HA, HK2, HO_7, HB⟩ := hrel
          cases gk with
          | zero => exact absurd HA.out (by simp [laws_FnMergeStranger.l0])
          | succ k2 =>
            have H := HA.out
            clear HA
            simp only [laws_FnMergeStranger.l0] at H
            by_cases c10 : x8_2 < (t153.length : Int)
            · rw [if_pos c10] at H
              have c10b0 : decide (x8_2 < (t153.length : Int)) = true := decide_eq_true c10
              clear c10
              by_cases c11 : 0 ≤ x8_2
              · rw [if_pos c11] at H
                have c11b0 : decide (0 ≤ x8_2) = true := decide_eq_true c11
                clear c11
                by_cases c12 : (rdOf ByteArray.empty t153 x8_2).toList = a0.toList
                · rw [if_pos c12] at H
                  have c12b0 : ((rdOf ByteArray.empty t153 x8_2).toList == a0.toList) = true := beq_iff_eq.mpr c12
                  have c12b1 : ((rdOf ByteArray.empty t153 x8_2).toList != a0.toList) = false := bne_eq_false_iff_eq.mpr c12
                  clear c12
                  replace H := Option.bind_eq_some_iff.mp H
                  obtain ⟨t157, A130, H⟩ := H
                  replace H : (some t157) = some r := H
                  have A13 := Aside0.mk A130
                  clear A130
                  obtain rfl := Option.some.inj H
                  obtain ⟨Ao14, co14, eo14⟩ := Kd.R_slice HO_7.out
                  subst eo14
                  have p156 : 0 ≤ (x8_2 : Int) := of_decide_eq_true (by first | (with_reducible assumption) | assumption)
                  have q156 : x8_2 < (t153.length : Int) := of_decide_eq_true (by first | (with_reducible assumption) | assumption)
                  obtain ⟨ad156, e156, hx156_0⟩ := Kd.at_string (Kd.R_reads' HO_7.out).2.2 x8_2 p156 q156
                  cases e156
                  replace p156 := eq_true p156
                  replace q156 := eq_true q156
                  go_wp2_with (first | ((with_reducible refine gate_callee (f := 29) rfl ?_); refine goesL_ (some 38) rfl rfl Try.func29 (by kernel_rfl) rfl #[] rfl (by (try simp only [List.map_toArray, List.map_cons, List.map_nil]); first | done | rfl | (simp only [List.length_drop, List.length_take]; rfl)) ?_; (with_reducible refine (laws_awakeMerge.calls k2  t157 _ A13.out).mono ?_); rintro e w15 ⟨rfl, hb⟩; refine ⟨_, rfl, ?_⟩; have n0_ := Aside0.mk (Kd.R_below (by (with_reducible repeat (first | apply Kd.R_alloc | apply Kd.R_drewN | apply Kd.R_drew)); exact HO_7.out) hb); have n1_ := Aside0.mk (below_step (by repeat (first | (with_reducible first | exact HB.out | apply below_alloc | apply pw_below_drewN | apply below_drew1) | exact HB.out)) hb); clear HO_7; clear HB; have HO_7 := n0_; have HB := n1_; clear n0_ n1_; (try clear hb); (try clear hb2); (try clear hk); (try clear hi)))
                  go_ret
                  exact ⟨by first | rfl | (simp [errW_none, errW_some] <;> rfl) | (simp [*, errW_none, errW_some] <;> rfl), by repeat (first | (with_reducible first | exact HB.out | apply below_alloc | apply pw_below_drewN | apply below_drew1) | exact HB.out)⟩
                · rw [if_neg c12] at H
                  have c12b0 : ((rdOf ByteArray.empty t153 x8_2).toList == a0.toList) = false := beq_eq_false_iff_ne.mpr c12
                  have c12b1 : ((rdOf ByteArray.empty t153 x8_2).toList != a0.toList) = true := bne_iff_ne.mpr c12
                  have H' := Aside0.mk H
                  clear H
                  obtain ⟨Ao16, co16, eo16⟩ := Kd.R_slice HO_7.out
                  subst eo16
                  have p156 : 0 ≤ (x8_2 : Int) := of_decide_eq_true (by first | (with_reducible assumption) | assumption)
                  have q156 : x8_2 < (t153.length : Int) := of_decide_eq_true (by first | (with_reducible assumption) | assumption)
                  obtain ⟨ad156, e156, hx156_0⟩ := Kd.at_string (Kd.R_reads' HO_7.out).2.2 x8_2 p156 q156
                  cases e156
                  replace p156 := eq_true p156
                  replace q156 := eq_true q156
                  go_wp2
                  go_roundg k2
                  case measure => have := HJ3.out; have := HK2.out; omega
                  case rel => exact ⟨(wrap64 (x8_2 + 1)), (by first | rfl | (simp; done) | (simp [*]; done)), H', ⟨by have := HJ3.out; have := HK2.out; omega⟩, ⟨by (with_reducible repeat (first | apply Kd.R_alloc | apply Kd.R_drewN | apply Kd.R_drew)); exact HO_7.out⟩, ⟨by repeat (first | (with_reducible first | exact HB.out | apply below_alloc | apply pw_below_drewN | apply below_drew1) | exact HB.out)⟩⟩
              · rw [if_neg c11] at H
                exact absurd H (by simp)
            · rw [if_neg c10] at H
              have c10b0 : decide (x8_2 < (t153.length : Int)) = false := decide_eq_false c10
              clear c10
              have HC17 := Aside0.mk H
              clear H
              obtain ⟨Ao18, co18, eo18⟩ := Kd.R_slice HO_7.out
              subst eo18
              go_upto_region 9 with (fail)
              go_cut [47] (fun v47 wc => ∃ (kq : Nat) (x47_16 : Bool), v47 = .bool x47_16 ∧ Aside0 (laws_FnMergeStranger.j2 kq a0 l1 l2 x47_16 = some r) ∧ Aside0 (kq ≤ k2) ∧ Aside0 (Below w.heap.size w wc))
              case first =>
                have H := HC17.out
                clear HC17
                replace H := Option.bind_eq_some_iff.mp H
                obtain ⟨t158, A190, H⟩ := H
                replace H : (if t158 = true then (laws_FnMergeStranger.j2 k2 a0 l1 l2 (decide ((a0.size : Int) > 300))) else (laws_FnMergeStranger.j2 k2 a0 l1 l2 true)) = some r := H
                have A19 := Aside0.mk A190
                clear A190
                by_cases c20 : t158 = true
                · subst c20
                  have H1 : (laws_FnMergeStranger.j2 k2 a0 l1 l2 (decide ((a0.size : Int) > 300))) = some r := by rw [if_pos rfl] at H; exact H
                  clear H
                  have H := H1
                  clear H1
                  have H' := Aside0.mk H
                  clear H
                  go_wp2_with (first | ((with_reducible refine gate_callee (f := 28) rfl ?_); refine goesL_ (some 41) rfl rfl Try.func28 (by kernel_rfl) rfl #[.slice A1 l1.length c1, .slice A2 l2.length c2] rfl (by (try simp only [List.map_toArray, List.map_cons, List.map_nil]); first | done | rfl | (simp only [List.length_drop, List.length_take]; rfl)) ?_; (with_reducible refine (laws_effects.calls k2 _ _ l1 _ _ l2 true _ ?side1 ?side2 ?side3 ?side4 A19.out).mono ?_); (case side1 => repeat (first | exact (Kd.C_below HR1.out HB.out) | (with_reducible refine Kd.C_alloc ?_ _) | (with_reducible refine Kd.C_drewN ?_ _) | (with_reducible refine Kd.C_drew ?_))); (case side2 => exact HC1.out); (case side3 => repeat (first | exact (Kd.C_below HR2.out HB.out) | (with_reducible refine Kd.C_alloc ?_ _) | (with_reducible refine Kd.C_drewN ?_ _) | (with_reducible refine Kd.C_drew ?_))); (case side4 => exact HC2.out); rintro e w' ⟨rfl, ⟨nd, rfl⟩⟩; refine ⟨_, rfl, ?_⟩))
                  go_meet
                  case rel => exact ⟨_, (decide ((a0.size : Int) > 300)), (by first | rfl | (simp; done) | (simp [*]; done)), H', ⟨by have := HJ3.out; have := HK2.out; first | omega | exact Nat.le_refl _⟩, ⟨by repeat (first | (with_reducible first | exact HB.out | apply below_alloc | apply pw_below_drewN | apply below_drew1) | exact HB.out)⟩⟩
                · replace c20 := Bool.eq_false_iff.mpr c20
                  subst c20
                  have H1 : (laws_FnMergeStranger.j2 k2 a0 l1 l2 true) = some r := by rw [if_neg (show ¬ (false = true) by decide)] at H; exact H
                  clear H
                  have H := H1
                  clear H1
                  have H' := Aside0.mk H
                  clear H
                  go_wp2_with (first | ((with_reducible refine gate_callee (f := 28) rfl ?_); refine goesL_ (some 41) rfl rfl Try.func28 (by kernel_rfl) rfl #[.slice A1 l1.length c1, .slice A2 l2.length c2] rfl (by (try simp only [List.map_toArray, List.map_cons, List.map_nil]); first | done | rfl | (simp only [List.length_drop, List.length_take]; rfl)) ?_; (with_reducible refine (laws_effects.calls k2 _ _ l1 _ _ l2 false _ ?side1 ?side2 ?side3 ?side4 A19.out).mono ?_); (case side1 => repeat (first | exact (Kd.C_below HR1.out HB.out) | (with_reducible refine Kd.C_alloc ?_ _) | (with_reducible refine Kd.C_drewN ?_ _) | (with_reducible refine Kd.C_drew ?_))); (case side2 => exact HC1.out); (case side3 => repeat (first | exact (Kd.C_below HR2.out HB.out) | (with_reducible refine Kd.C_alloc ?_ _) | (with_reducible refine Kd.C_drewN ?_ _) | (with_reducible refine Kd.C_drew ?_))); (case side4 => exact HC2.out); rintro e w' ⟨rfl, ⟨nd, rfl⟩⟩; refine ⟨_, rfl, ?_⟩))
                  go_meet
                  case rel => exact ⟨_, (true), (by first | rfl | (simp; done) | (simp [*]; done)), H', ⟨by have := HJ3.out; have := HK2.out; first | omega | exact Nat.le_refl _⟩, ⟨by repeat (first | (with_reducible first | exact HB.out | apply below_alloc | apply pw_below_drewN | apply below_drew1) | exact HB.out)⟩⟩
              case rest =>
                clear HC17
                try clear c1
                try clear p1
                try clear q1
                try clear hx1
                try clear c2
                try clear p2
                try clear c3
                try clear c5
                try clear c5b0
                try clear c5b1
                try clear c6
                try clear c6b0
                try clear c6b1
                try clear p6
                try clear c7
                try clear c10
                try clear c10b0
                try clear c11
                try clear c11b0
                try clear c12
                try clear c12b0
                try clear c12b1
                try clear p15
                try clear q15
                try clear hx15
                try clear c20
                try clear hx156_0
                try clear p156
                try clear p2
                try clear q156
                obtain ⟨kq, x47_16, rfl, HA, HJ16, HB⟩ := hcut
                cases kq with
                | zero => exact absurd HA.out (by simp [laws_FnMergeStranger.j2])
                | succ kj16 =>
                  have H := HA.out
                  clear HA
                  simp only [laws_FnMergeStranger.j2] at H
                  by_cases c21 : x47_16 = true
                  · subst c21
                    have H1 : ((laws_awakeMerge.f kj16).bind fun t159 => (some t159)) = some r := by rw [if_pos rfl] at H; exact H
                    clear H
                    have H := H1
                    clear H1
                    replace H := Option.bind_eq_some_iff.mp H
                    obtain ⟨t159, A220, H⟩ := H
                    replace H : (some t159) = some r := H
                    have A22 := Aside0.mk A220
                    clear A220
                    obtain rfl := Option.some.inj H
                    go_wp2_with (first | ((with_reducible refine gate_callee (f := 29) rfl ?_); refine goesL_ (some 48) rfl rfl Try.func29 (by kernel_rfl) rfl #[] rfl (by (try simp only [List.map_toArray, List.map_cons, List.map_nil]); first | done | rfl | (simp only [List.length_drop, List.length_take]; rfl)) ?_; (with_reducible refine (laws_awakeMerge.calls kj16  t159 _ A22.out).mono ?_); rintro e w23 ⟨rfl, hb⟩; refine ⟨_, rfl, ?_⟩; have n0_ := Aside0.mk (below_step (by repeat (first | (with_reducible first | exact HB.out | apply below_alloc | apply pw_below_drewN | apply below_drew1) | exact HB.out)) hb); clear HB; have HB := n0_; clear n0_; (try clear hb); (try clear hb2); (try clear hk); (try clear hi)))
                    go_ret
                    exact ⟨by first | rfl | (simp [errW_none, errW_some] <;> rfl) | (simp [*, errW_none, errW_some] <;> rfl), by repeat (first | (with_reducible first | exact HB.out | apply below_alloc | apply pw_below_drewN | apply below_drew1) | exact HB.out)⟩
                  · replace c21 := Bool.eq_false_iff.mpr c21
                    subst c21
                    have H1 : ((some (([] : List Int) : List Int)).bind fun y160 => (if y160.length + l1.length < 17592186044416 then ((some (([] : List Bool) : List Bool)).bind fun y166 => (if y166.length + l2.length < 140737488355328 then ((impl_Merge.f kj16 a0 (y160 ++ l1) (y166 ++ l2) 0 (l1.length : Int)).bind fun bt172 => (if bt172.2.2 = 0 then (some false) else ((laws_awakeMerge.f kj16).bind fun t175 => (some t175)))) else (none))) else (none))) = some r := by rw [if_neg (show ¬ (false = true) by decide)] at H; exact H
                    clear H
                    have H := H1
                    clear H1
                    obtain ⟨y160, hy160⟩ : ∃ y_ : List Int, y_ = (([] : List Int)) := ⟨_, rfl⟩
                    replace H : (if y160.length + l1.length < 17592186044416 then ((some (([] : List Bool) : List Bool)).bind fun y166 => (if y166.length + l2.length < 140737488355328 then ((impl_Merge.f kj16 a0 (y160 ++ l1) (y166 ++ l2) 0 (l1.length : Int)).bind fun bt172 => (if bt172.2.2 = 0 then (some false) else ((laws_awakeMerge.f kj16).bind fun t175 => (some t175)))) else (none))) else (none)) = some r := by first | (rw [hy160]; with_reducible exact H) | (have H2_ := (Option.bind_some _ _).symm.trans H; rw [hy160]; with_reducible exact H2_) | (have H2_ := (Option.bind_some _ _).symm.trans H; with_reducible exact H2_) | with_reducible exact H | (rw [hy160]; exact H) | exact H
                    have Ny160 := Aside0.mk hy160
                    clear hy160
                    by_cases c24 : y160.length + l1.length < 17592186044416
                    · rw [if_pos c24] at H
                      have LMc24 := Aside0.mk c24
                      clear c24
                      obtain ⟨y163, hy163⟩ : ∃ y_ : List Int, y_ = (y160 ++ l1) := ⟨_, rfl⟩
                      replace H : ((some (([] : List Bool) : List Bool)).bind fun y166 => (if y166.length + l2.length < 140737488355328 then ((impl_Merge.f kj16 a0 y163 (y166 ++ l2) 0 (l1.length : Int)).bind fun bt172 => (if bt172.2.2 = 0 then (some false) else ((laws_awakeMerge.f kj16).bind fun t175 => (some t175)))) else (none))) = some r := by first | (rw [hy163]; with_reducible exact H) | (have H2_ := (Option.bind_some _ _).symm.trans H; rw [hy163]; with_reducible exact H2_) | (have H2_ := (Option.bind_some _ _).symm.trans H; with_reducible exact H2_) | with_reducible exact H | (rw [hy163]; exact H) | exact H
                      have Ny163 := Aside0.mk hy163
                      clear hy163
                      obtain ⟨y166, hy166⟩ : ∃ y_ : List Bool, y_ = (([] : List Bool)) := ⟨_, rfl⟩
                      replace H : (if y166.length + l2.length < 140737488355328 then ((impl_Merge.f kj16 a0 y163 (y166 ++ l2) 0 (l1.length : Int)).bind fun bt172 => (if bt172.2.2 = 0 then (some false) else ((laws_awakeMerge.f kj16).bind fun t175 => (some t175)))) else (none)) = some r := by first | (rw [hy166]; with_reducible exact H) | (have H2_ := (Option.bind_some _ _).symm.trans H; rw [hy166]; with_reducible exact H2_) | (have H2_ := (Option.bind_some _ _).symm.trans H; with_reducible exact H2_) | with_reducible exact H | (rw [hy166]; exact H) | exact H
                      have Ny166 := Aside0.mk hy166
                      clear hy166
                      by_cases c25 : y166.length + l2.length < 140737488355328
                      · rw [if_pos c25] at H
                        have LMc25 := Aside0.mk c25
                        clear c25
                        obtain ⟨y169, hy169⟩ : ∃ y_ : List Bool, y_ = (y166 ++ l2) := ⟨_, rfl⟩
                        replace H : ((impl_Merge.f kj16 a0 y163 y169 0 (l1.length : Int)).bind fun bt172 => (if bt172.2.2 = 0 then (some false) else ((laws_awakeMerge.f kj16).bind fun t175 => (some t175)))) = some r := by first | (rw [hy169]; with_reducible exact H) | (have H2_ := (Option.bind_some _ _).symm.trans H; rw [hy169]; with_reducible exact H2_) | (have H2_ := (Option.bind_some _ _).symm.trans H; with_reducible exact H2_) | with_reducible exact H | (rw [hy169]; exact H) | exact H
                        have Ny169 := Aside0.mk hy169
                        clear hy169
                        replace H := Option.bind_eq_some_iff.mp H
                        obtain ⟨⟨t172, t173, t174⟩, A260, H⟩ := H
                        replace H : (if t174 = 0 then (some false) else ((laws_awakeMerge.f kj16).bind fun t175 => (some t175))) = some r := H
                        have A26 := Aside0.mk A260
                        clear A260
                        by_cases c27 : t174 = 0
                        · rw [if_pos c27] at H
                          have c27b0 : (t174 == 0) = true := beq_iff_eq.mpr c27
                          have c27b1 : (t174 != 0) = false := bne_eq_false_iff_eq.mpr c27
                          clear c27
                          obtain rfl := Option.some.inj H
                          go_wp2_with (first | ((with_reducible refine gate_dst (N := 51) rfl ?_); (try (refine gate_guard (by rfl) ?_; dsimp only)); refine Kd.R_lit (Kd.int .i64) _ 3 ?hg (N := 51) ?hd (xs := ([] : List Int)) (inner := []) (ok := fun _ => True) (okp := fun _ => True) ?hr ?hp (fun _ hk => hk) trivial (Below.refl _ _) (Nat.le_refl _) (by simp) ?_; (case hd => rfl); (case hg => rfl); (case hr => first | (go_simp; done) | (go_simp; rfl)); (case hp => exact (Reps.none _ _)); intro v161 w28 ho29 hb hg_ hnew_; clear hg_ hnew_; (first | rw [← Ny160.out] at ho29 | (simp only [Int.reduceToNat] at ho29; rw [← Ny160.out] at ho29)); have n0_ := Aside0.mk (Kd.R_lower ho29 (below_size (by repeat (first | (with_reducible first | exact HB.out | apply below_alloc | apply pw_below_drewN | apply below_drew1) | exact HB.out)))); have n1_ := Aside0.mk (below_step (by repeat (first | (with_reducible first | exact HB.out | apply below_alloc | apply pw_below_drewN | apply below_drew1) | exact HB.out)) hb); clear HB; have HO162 := n0_; have HB := n1_; clear n0_ n1_; clear hb ho29) | ((with_reducible refine gate_builtin (b := .append) (xs := #[.tmp 51, .tmp 52]) rfl ?_); (try (refine gate_guard (by rfl) ?_; dsimp only)); at_builtin; refine Kd.R_append_rows (Kd.int .i64) (w0 := w) w.heap.size rfl (.tmp 51) (.tmp 52) 39 3 (.int .i64 0) 8 rfl Try.underlying39 info3 rfl (by decide) (by omega) v161 y160 l1 _ _ _ (fun _ => True) (fun _ => False) rfl rfl ?aO ?aR (fun _ _ h => h) (fun _ h => h.elim) ?aF ?aB ?aS ?aL ?_; (case aR => repeat (first | exact (Kd.C_below HR1.out HB.out) | (with_reducible refine Kd.C_alloc ?_ _) | (with_reducible refine Kd.C_drewN ?_ _) | (with_reducible refine Kd.C_drew ?_))); (case aB => exact (by repeat (first | (with_reducible first | exact HB.out | apply below_alloc | apply pw_below_drewN | apply below_drew1) | exact HB.out))); (case aF => exact (fun _ _ => trivial)); (case aO => exact (by (with_reducible repeat (first | apply Kd.R_alloc | apply Kd.R_drewN | apply Kd.R_drew)); exact HO162.out)); (case aS => exact (below_size (by repeat (first | (with_reducible first | exact HB.out | apply below_alloc | apply pw_below_drewN | apply below_drew1) | exact HB.out)))); (case aL => have := LMc24.out; omega); intro v164 w30 ho hb hg hat; rw [← Ny163.out] at ho; have n0_ := Aside0.mk (hb); have n1_ := Aside0.mk (ho); clear HB; clear HO162; have HB := n0_; have HO165 := n1_; clear n0_ n1_; clear ho hb hg hat) | ((with_reducible refine gate_dst (N := 54) rfl ?_); (try (refine gate_guard (by rfl) ?_; dsimp only)); refine Kd.R_lit Kd.bool _ 4 ?hg (N := 54) ?hd (xs := ([] : List Bool)) (inner := []) (ok := fun _ => True) (okp := fun _ => True) ?hr ?hp (fun _ hk => hk) trivial (Below.refl _ _) (Nat.le_refl _) (by simp) ?_; (case hd => rfl); (case hg => rfl); (case hr => first | (go_simp; done) | (go_simp; rfl)); (case hp => exact (Reps.none _ _)); intro v167 w31 ho32 hb hg_ hnew_; clear hg_ hnew_; (first | rw [← Ny166.out] at ho32 | (simp only [Int.reduceToNat] at ho32; rw [← Ny166.out] at ho32)); have n0_ := Aside0.mk (Kd.R_below (by (with_reducible repeat (first | apply Kd.R_alloc | apply Kd.R_drewN | apply Kd.R_drew)); exact HO165.out) hb); have n1_ := Aside0.mk (Kd.R_lower ho32 (below_size (by repeat (first | (with_reducible first | exact HB.out | apply below_alloc | apply pw_below_drewN | apply below_drew1) | exact HB.out)))); have n2_ := Aside0.mk (below_step (by repeat (first | (with_reducible first | exact HB.out | apply below_alloc | apply pw_below_drewN | apply below_drew1) | exact HB.out)) hb); clear HO165; clear HB; have HO165 := n0_; have HO168 := n1_; have HB := n2_; clear n0_ n1_ n2_; clear hb ho32) | ((with_reducible refine gate_builtin (b := .append) (xs := #[.tmp 54, .tmp 55]) rfl ?_); (try (refine gate_guard (by rfl) ?_; dsimp only)); at_builtin; refine Kd.R_append_rows Kd.bool (w0 := w) w.heap.size rfl (.tmp 54) (.tmp 55) 40 4 (.bool false) 1 rfl Try.underlying40 info4 rfl (by decide) (by omega) v167 y166 l2 _ _ _ (fun _ => True) (fun _ => False) rfl rfl ?aO ?aR (fun _ _ h => h) (fun _ h => h.elim) ?aF ?aB ?aS ?aL ?_; (case aR => repeat (first | exact (Kd.C_below HR2.out HB.out) | (with_reducible refine Kd.C_alloc ?_ _) | (with_reducible refine Kd.C_drewN ?_ _) | (with_reducible refine Kd.C_drew ?_))); (case aB => exact (by repeat (first | (with_reducible first | exact HB.out | apply below_alloc | apply pw_below_drewN | apply below_drew1) | exact HB.out))); (case aF => exact (fun _ _ => trivial)); (case aO => exact (by (with_reducible repeat (first | apply Kd.R_alloc | apply Kd.R_drewN | apply Kd.R_drew)); exact HO168.out)); (case aS => exact (below_size (by repeat (first | (with_reducible first | exact HB.out | apply below_alloc | apply pw_below_drewN | apply below_drew1) | exact HB.out)))); (case aL => have := LMc25.out; omega); intro v170 w33 ho hb hg hat; rw [← Ny169.out] at ho; have n0_ := Aside0.mk (Kd.R_over' (by (with_reducible repeat (first | apply Kd.R_alloc | apply Kd.R_drewN | apply Kd.R_drew)); exact HO165.out) (Kd.R_typed (by (with_reducible repeat (first | apply Kd.R_alloc | apply Kd.R_drewN | apply Kd.R_drew)); exact HO168.out)) (by decide) hg); have n1_ := Aside0.mk (hb); have n2_ := Aside0.mk (ho); clear HO165; clear HB; clear HO168; have HO165 := n0_; have HB := n1_; have HO171 := n2_; clear n0_ n1_ n2_; clear ho hb hg hat; obtain ⟨Ao34, co34, eo34⟩ := Kd.R_slice HO165.out; subst eo34; obtain ⟨Ao35, co35, eo35⟩ := Kd.R_slice HO171.out; subst eo35) | ((with_reducible refine gate_callee (f := 34) rfl ?_); refine goesL_ (some 59) rfl rfl Try.func34 (by kernel_rfl) rfl #[.string a0, .slice Ao34 y163.length co34, .slice Ao35 y169.length co35, .int .i64 0, .int .i64 (l1.length : Int)] rfl (by (try simp only [List.map_toArray, List.map_cons, List.map_nil]); first | done | rfl | (simp only [List.length_drop, List.length_take]; rfl)) ?_; (with_reducible refine (impl_Merge.calls kj16 a0 _ _ y163 _ _ y169 0 (l1.length : Int) t172 t173 t174 _ ?side1 ?side2 ?side3 ?side4 A26.out).mono ?_); (case side1 => repeat (first | exact (Kd.R_reads' HO165.out).2.2 | (with_reducible refine Kd.C_alloc ?_ _) | (with_reducible refine Kd.C_drewN ?_ _) | (with_reducible refine Kd.C_drew ?_))); (case side2 => exact (Kd.R_reads' HO165.out).2.1); (case side3 => repeat (first | exact (Kd.R_reads' HO171.out).2.2 | (with_reducible refine Kd.C_alloc ?_ _) | (with_reducible refine Kd.C_drewN ?_ _) | (with_reducible refine Kd.C_drew ?_))); (case side4 => exact (Kd.R_reads' HO171.out).2.1); rintro e w36 ⟨rfl, hb⟩; refine ⟨_, rfl, ?_⟩; have n0_ := Aside0.mk (Kd.R_below (by (with_reducible repeat (first | apply Kd.R_alloc | apply Kd.R_drewN | apply Kd.R_drew)); exact HO165.out) hb); have n1_ := Aside0.mk (Kd.R_below (by (with_reducible repeat (first | apply Kd.R_alloc | apply Kd.R_drewN | apply Kd.R_drew)); exact HO171.out) hb); have n2_ := Aside0.mk (below_step (by repeat (first | (with_reducible first | exact HB.out | apply below_alloc | apply pw_below_drewN | apply below_drew1) | exact HB.out)) hb); clear HO165; clear HO171; clear HB; have HO165 := n0_; have HO171 := n1_; have HB := n2_; clear n0_ n1_ n2_; (try clear hb); (try clear hb2); (try clear hk); (try clear hi)))
                          go_ret
                          exact ⟨by first | rfl | (simp [errW_none, errW_some] <;> rfl) | (simp [*, errW_none, errW_some] <;> rfl), by repeat (first | (with_reducible first | exact HB.out | apply below_alloc | apply pw_below_drewN | apply below_drew1) | exact HB.out)⟩
                        · rw [if_neg c27] at H
                          have c27b0 : (t174 == 0) = false := beq_eq_false_iff_ne.mpr c27
                          have c27b1 : (t174 != 0) = true := bne_iff_ne.mpr c27
                          replace H := Option.bind_eq_some_iff.mp H
                          obtain ⟨t175, A370, H⟩ := H
                          replace H : (some t175) = some r := H
                          have A37 := Aside0.mk A370
                          clear A370
                          obtain rfl := Option.some.inj H
                          go_wp2_with (first | ((with_reducible refine gate_dst (N := 51) rfl ?_); (try (refine gate_guard (by rfl) ?_; dsimp only)); refine Kd.R_lit (Kd.int .i64) _ 3 ?hg (N := 51) ?hd (xs := ([] : List Int)) (inner := []) (ok := fun _ => True) (okp := fun _ => True) ?hr ?hp (fun _ hk => hk) trivial (Below.refl _ _) (Nat.le_refl _) (by simp) ?_; (case hd => rfl); (case hg => rfl); (case hr => first | (go_simp; done) | (go_simp; rfl)); (case hp => exact (Reps.none _ _)); intro v161 w38 ho39 hb hg_ hnew_; clear hg_ hnew_; (first | rw [← Ny160.out] at ho39 | (simp only [Int.reduceToNat] at ho39; rw [← Ny160.out] at ho39)); have n0_ := Aside0.mk (Kd.R_lower ho39 (below_size (by repeat (first | (with_reducible first | exact HB.out | apply below_alloc | apply pw_below_drewN | apply below_drew1) | exact HB.out)))); have n1_ := Aside0.mk (below_step (by repeat (first | (with_reducible first | exact HB.out | apply below_alloc | apply pw_below_drewN | apply below_drew1) | exact HB.out)) hb); clear HB; have HO162 := n0_; have HB := n1_; clear n0_ n1_; clear hb ho39) | ((with_reducible refine gate_builtin (b := .append) (xs := #[.tmp 51, .tmp 52]) rfl ?_); (try (refine gate_guard (by rfl) ?_; dsimp only)); at_builtin; refine Kd.R_append_rows (Kd.int .i64) (w0 := w) w.heap.size rfl (.tmp 51) (.tmp 52) 39 3 (.int .i64 0) 8 rfl Try.underlying39 info3 rfl (by decide) (by omega) v161 y160 l1 _ _ _ (fun _ => True) (fun _ => False) rfl rfl ?aO ?aR (fun _ _ h => h) (fun _ h => h.elim) ?aF ?aB ?aS ?aL ?_; (case aR => repeat (first | exact (Kd.C_below HR1.out HB.out) | (with_reducible refine Kd.C_alloc ?_ _) | (with_reducible refine Kd.C_drewN ?_ _) | (with_reducible refine Kd.C_drew ?_))); (case aB => exact (by repeat (first | (with_reducible first | exact HB.out | apply below_alloc | apply pw_below_drewN | apply below_drew1) | exact HB.out))); (case aF => exact (fun _ _ => trivial)); (case aO => exact (by (with_reducible repeat (first | apply Kd.R_alloc | apply Kd.R_drewN | apply Kd.R_drew)); exact HO162.out)); (case aS => exact (below_size (by repeat (first | (with_reducible first | exact HB.out | apply below_alloc | apply pw_below_drewN | apply below_drew1) | exact HB.out)))); (case aL => have := LMc24.out; omega); intro v164 w40 ho hb hg hat; rw [← Ny163.out] at ho; have n0_ := Aside0.mk (hb); have n1_ := Aside0.mk (ho); clear HB; clear HO162; have HB := n0_; have HO165 := n1_; clear n0_ n1_; clear ho hb hg hat) | ((with_reducible refine gate_dst (N := 54) rfl ?_); (try (refine gate_guard (by rfl) ?_; dsimp only)); refine Kd.R_lit Kd.bool _ 4 ?hg (N := 54) ?hd (xs := ([] : List Bool)) (inner := []) (ok := fun _ => True) (okp := fun _ => True) ?hr ?hp (fun _ hk => hk) trivial (Below.refl _ _) (Nat.le_refl _) (by simp) ?_; (case hd => rfl); (case hg => rfl); (case hr => first | (go_simp; done) | (go_simp; rfl)); (case hp => exact (Reps.none _ _)); intro v167 w41 ho42 hb hg_ hnew_; clear hg_ hnew_; (first | rw [← Ny166.out] at ho42 | (simp only [Int.reduceToNat] at ho42; rw [← Ny166.out] at ho42)); have n0_ := Aside0.mk (Kd.R_below (by (with_reducible repeat (first | apply Kd.R_alloc | apply Kd.R_drewN | apply Kd.R_drew)); exact HO165.out) hb); have n1_ := Aside0.mk (Kd.R_lower ho42 (below_size (by repeat (first | (with_reducible first | exact HB.out | apply below_alloc | apply pw_below_drewN | apply below_drew1) | exact HB.out)))); have n2_ := Aside0.mk (below_step (by repeat (first | (with_reducible first | exact HB.out | apply below_alloc | apply pw_below_drewN | apply below_drew1) | exact HB.out)) hb); clear HO165; clear HB; have HO165 := n0_; have HO168 := n1_; have HB := n2_; clear n0_ n1_ n2_; clear hb ho42) | ((with_reducible refine gate_builtin (b := .append) (xs := #[.tmp 54, .tmp 55]) rfl ?_); (try (refine gate_guard (by rfl) ?_; dsimp only)); at_builtin; refine Kd.R_append_rows Kd.bool (w0 := w) w.heap.size rfl (.tmp 54) (.tmp 55) 40 4 (.bool false) 1 rfl Try.underlying40 info4 rfl (by decide) (by omega) v167 y166 l2 _ _ _ (fun _ => True) (fun _ => False) rfl rfl ?aO ?aR (fun _ _ h => h) (fun _ h => h.elim) ?aF ?aB ?aS ?aL ?_; (case aR => repeat (first | exact (Kd.C_below HR2.out HB.out) | (with_reducible refine Kd.C_alloc ?_ _) | (with_reducible refine Kd.C_drewN ?_ _) | (with_reducible refine Kd.C_drew ?_))); (case aB => exact (by repeat (first | (with_reducible first | exact HB.out | apply below_alloc | apply pw_below_drewN | apply below_drew1) | exact HB.out))); (case aF => exact (fun _ _ => trivial)); (case aO => exact (by (with_reducible repeat (first | apply Kd.R_alloc | apply Kd.R_drewN | apply Kd.R_drew)); exact HO168.out)); (case aS => exact (below_size (by repeat (first | (with_reducible first | exact HB.out | apply below_alloc | apply pw_below_drewN | apply below_drew1) | exact HB.out)))); (case aL => have := LMc25.out; omega); intro v170 w43 ho hb hg hat; rw [← Ny169.out] at ho; have n0_ := Aside0.mk (Kd.R_over' (by (with_reducible repeat (first | apply Kd.R_alloc | apply Kd.R_drewN | apply Kd.R_drew)); exact HO165.out) (Kd.R_typed (by (with_reducible repeat (first | apply Kd.R_alloc | apply Kd.R_drewN | apply Kd.R_drew)); exact HO168.out)) (by decide) hg); have n1_ := Aside0.mk (hb); have n2_ := Aside0.mk (ho); clear HO165; clear HB; clear HO168; have HO165 := n0_; have HB := n1_; have HO171 := n2_; clear n0_ n1_ n2_; clear ho hb hg hat; obtain ⟨Ao44, co44, eo44⟩ := Kd.R_slice HO165.out; subst eo44; obtain ⟨Ao45, co45, eo45⟩ := Kd.R_slice HO171.out; subst eo45) | ((with_reducible refine gate_callee (f := 34) rfl ?_); refine goesL_ (some 59) rfl rfl Try.func34 (by kernel_rfl) rfl #[.string a0, .slice Ao44 y163.length co44, .slice Ao45 y169.length co45, .int .i64 0, .int .i64 (l1.length : Int)] rfl (by (try simp only [List.map_toArray, List.map_cons, List.map_nil]); first | done | rfl | (simp only [List.length_drop, List.length_take]; rfl)) ?_; (with_reducible refine (impl_Merge.calls kj16 a0 _ _ y163 _ _ y169 0 (l1.length : Int) t172 t173 t174 _ ?side1 ?side2 ?side3 ?side4 A26.out).mono ?_); (case side1 => repeat (first | exact (Kd.R_reads' HO165.out).2.2 | (with_reducible refine Kd.C_alloc ?_ _) | (with_reducible refine Kd.C_drewN ?_ _) | (with_reducible refine Kd.C_drew ?_))); (case side2 => exact (Kd.R_reads' HO165.out).2.1); (case side3 => repeat (first | exact (Kd.R_reads' HO171.out).2.2 | (with_reducible refine Kd.C_alloc ?_ _) | (with_reducible refine Kd.C_drewN ?_ _) | (with_reducible refine Kd.C_drew ?_))); (case side4 => exact (Kd.R_reads' HO171.out).2.1); rintro e w46 ⟨rfl, hb⟩; refine ⟨_, rfl, ?_⟩; have n0_ := Aside0.mk (Kd.R_below (by (with_reducible repeat (first | apply Kd.R_alloc | apply Kd.R_drewN | apply Kd.R_drew)); exact HO165.out) hb); have n1_ := Aside0.mk (Kd.R_below (by (with_reducible repeat (first | apply Kd.R_alloc | apply Kd.R_drewN | apply Kd.R_drew)); exact HO171.out) hb); have n2_ := Aside0.mk (below_step (by repeat (first | (with_reducible first | exact HB.out | apply below_alloc | apply pw_below_drewN | apply below_drew1) | exact HB.out)) hb); clear HO165; clear HO171; clear HB; have HO165 := n0_; have HO171 := n1_; have HB := n2_; clear n0_ n1_ n2_; (try clear hb); (try clear hb2); (try clear hk); (try clear hi)) | (go_at_call 29; (with_reducible refine (laws_awakeMerge.calls kj16  t175 _ A37.out).mono ?_); rintro e w47 ⟨rfl, hb⟩; have n0_ := Aside0.mk (Kd.R_below (by (with_reducible repeat (first | apply Kd.R_alloc | apply Kd.R_drewN | apply Kd.R_drew)); exact HO165.out) hb); have n1_ := Aside0.mk (Kd.R_below (by (with_reducible repeat (first | apply Kd.R_alloc | apply Kd.R_drewN | apply Kd.R_drew)); exact HO171.out) hb); have n2_ := Aside0.mk (below_step (by repeat (first | (with_reducible first | exact HB.out | apply below_alloc | apply pw_below_drewN | apply below_drew1) | exact HB.out)) hb); clear HO165; clear HO171; clear HB; have HO165 := n0_; have HO171 := n1_; have HB := n2_; clear n0_ n1_ n2_; (try clear hb); (try clear hb2); (try clear hk); (try clear hi)))
                          go_ret
                          exact ⟨by first | rfl | (simp [errW_none, errW_some] <;> rfl) | (simp [*, errW_none, errW_some] <;> rfl), by repeat (first | (with_reducible first | exact HB.out | apply below_alloc | apply pw_below_drewN | apply below_drew1) | exact HB.out)⟩
                      · rw [if_neg c25] at H
                        exact absurd H (by simp)
                    · rw [if_neg c24] at H
                      exact absurd H (by simp)

end Go.Proofs.Ytdhmlcnlklcofaa.PFnMergeStranger
