/- The machine side of laws.FnMerge: each function of this text answers what its Lean function answers (written for this claim by a program of this session over the kit's print; no condition beyond what each theorem says). -/
import Derived.Test.YtdhmlcnlklcofaaOFnMergex0
import Derived.Test.YtdhmlcnlklcofaaOFnMergex1
import Derived.Test.YtdhmlcnlklcofaaOFnMergex3
namespace Go.Proofs.Ytdhmlcnlklcofaa.PFnMerge
open Go.RowKit Go.Proofs.YtdhmlcnlklcofaaW.PrintWords Go.Proofs.YtdhmlcnlklcofaaW.PrintLast Go.Proofs.YtdhmlcnlklcofaaW.PrintMore
attribute [local go_sem] max2_int min2_int max_two min_two max_three min_three max_four min_four   -- for this text's walks alone
set_option linter.unusedVariables false
set_option linter.unusedSimpArgs false

/-! ### laws_merged: function 32 -/
/-- what a copy leaves -/
def cpyb (xs ys : List Bool) : List Bool := ys.take (min ys.length xs.length) ++ xs.drop (min ys.length xs.length)
theorem infoM3 : (Try.prog.info? 3).map (fun i => (i.zero, i.size, i.bytes)) = some (some (.int .i64 0), 1, 8) := by kernel_rfl
theorem infoM4 : (Try.prog.info? 4).map (fun i => (i.zero, i.size, i.bytes)) = some (some (.bool false), 1, 1) := by kernel_rfl
def laws_merged.l0 : Nat → ByteArray → List Int → List Bool → Int → Option (Int × Int × Bool)
  | 0, _, _, _, _ => none
  | k + 1, x0, x1, x2, x9 => if x9 < (x1.length : Int) then (if 0 ≤ (x1.length : Int) then (if ((x1.length : Int) : Int).toNat ≤ 281474976710656 then ((some (List.replicate ((x1.length : Int) : Int).toNat false : List Bool)).bind fun y161 => (if 0 ≤ (wrap64 (x9 + 1)) then (if (wrap64 (x9 + 1)) ≤ (x2.length : Int) then (if y161.length + (x2.take ((wrap64 (x9 + 1)) : Int).toNat).length < 140737488355328 then ((some (([] : List Int) : List Int)).bind fun y168 => (if y168.length + x1.length < 17592186044416 then ((impl_Merge.f k x0 (y168 ++ x1) (cpyb y161 (x2.take ((wrap64 (x9 + 1)) : Int).toNat)) x9 (x1.length : Int)).bind fun bt174 => (if bt174.2.2 = 0 then (if bt174.1 = 1 then (laws_merged.l0 k x0 x1 x2 (wrap64 (x9 + 1))) else (some (bt174.1, bt174.2.1, true))) else (some (0, 0, false)))) else (none))) else (none)) else (none)) else (none))) else (none)) else (none)) else (some (1, (-1), true))
def laws_merged.f (k : Nat) (a0 : ByteArray) (l1 : List Int) (l2 : List Bool) : Option (Int × Int × Bool) := laws_merged.l0 k a0 l1 l2 0
theorem laws_merged.mono_l : ∀ k, (∀ y0 y1 y2 y3, LeO (laws_merged.l0 k y0 y1 y2 y3) (laws_merged.l0 (k + 1) y0 y1 y2 y3))
  | 0 => fun _ _ _ _ r h => by simp [laws_merged.l0] at h
  | k + 1 => by
    have ih0 := laws_merged.mono_l k
    · intro y0 y1 y2 y3
      unfold laws_merged.l0
      repeat' first
      | (with_reducible exact ih0 _ _ _ _)
      | (with_reducible exact impl_Merge.mono _ _ _ _ _ _)
      | (with_reducible exact LeO.refl _)
      | (with_reducible exact LeO.none _)
      | (with_reducible refine LeO.ite ?_ ?_)
      | (with_reducible refine LeO.bind ?_ (fun _ => ?_))
      | exact ih0 _ _ _ _
      | exact impl_Merge.mono _ _ _ _ _ _
      | exact LeO.none _
      | refine LeO.ite ?_ ?_
      | refine LeO.bind ?_ (fun _ => ?_)
theorem laws_merged.mono : ∀ a0 a1 a2 k, LeO (laws_merged.f k a0 a1 a2) (laws_merged.f (k + 1) a0 a1 a2) := by
  intro a0 a1 a2 k
  have ih0 := laws_merged.mono_l k
  unfold laws_merged.f
  repeat' first
      | (with_reducible exact ih0 _ _ _ _)
      | (with_reducible exact impl_Merge.mono _ _ _ _ _ _)
      | (with_reducible exact LeO.refl _)
      | (with_reducible exact LeO.none _)
      | (with_reducible refine LeO.ite ?_ ?_)
      | (with_reducible refine LeO.bind ?_ (fun _ => ?_))
      | exact ih0 _ _ _ _
      | exact impl_Merge.mono _ _ _ _ _ _
      | exact LeO.none _
      | refine LeO.ite ?_ ?_
      | refine LeO.bind ?_ (fun _ => ?_)
set_option maxHeartbeats 8000000 in
set_option maxRecDepth 100000 in
theorem laws_merged.calls (k : Nat) (a0 : ByteArray) (A1 : Option Addr) (c1 : Nat) (l1 : List Int) (A2 : Option Addr) (c2 : Nat) (l2 : List Bool) (r1 : Int) (r2 : Int) (r3 : Bool) (w : World) (hr1 : Kd.C (Kd.int .i64) w A1 l1.length l1) (hc1 : l1.length ≤ c1) (hr2 : Kd.C Kd.bool w A2 l2.length l2) (hc2 : l2.length ≤ c2) (h : laws_merged.f k a0 l1 l2 = some (r1, r2, r3)) :
    Calls Try.prog 32 #[.string a0, .slice A1 l1.length c1, .slice A2 l2.length c2] w fun e w' => e = .returned (.tuple #[.int .i64 r1, .int .i64 r2, .bool r3]) ∧ Below w.heap.size w w' := by
  have HR1 := Aside0.mk hr1
  have HC1 := Aside0.mk hc1
  clear hr1 hc1
  have HR2 := Aside0.mk hr2
  have HC2 := Aside0.mk hc2
  clear hr2 hc2
  have HB := Aside0.mk (Below.refl w.heap.size w)
  have H : (laws_merged.l0 k a0 l1 l2 0) = some (r1, r2, r3) := h
  clear h
  have H' := Aside0.mk H
  clear H
  go_enter Try.func32, Try.ntmps32
  go_wp2
  go_loopg [9] k (fun kq v9 w' => ∃ (x9_1 : Int), v9 = .int .i64 x9_1 ∧ Aside0 (laws_merged.l0 kq a0 l1 l2 x9_1 = some (r1, r2, r3)) ∧ Aside0 (kq ≤ k) ∧ Aside0 (Below w.heap.size w w'))
  case atStart => exact ⟨(0), (by first | rfl | (simp; done) | (simp [*]; done)), H', ⟨Nat.le_refl _⟩, ⟨by repeat (first | (with_reducible first | exact HB.out | apply below_alloc | apply pw_below_drewN | apply below_drew1) | exact HB.out)⟩⟩
  case round =>
    clear H'
    try clear c1
    try clear c2
    try clear p2
    try clear c3
    obtain ⟨x9_1, rfl, HA, HK1, HB⟩ := hrel
    cases gk with
    | zero => exact absurd HA.out (by simp [laws_merged.l0])
    | succ k1 =>
      have H := HA.out
      clear HA
      simp only [laws_merged.l0] at H
      by_cases c4 : x9_1 < (l1.length : Int)
      · rw [if_pos c4] at H
        have c4b0 : decide (x9_1 < (l1.length : Int)) = true := decide_eq_true c4
        clear c4
        by_cases c5 : 0 ≤ (l1.length : Int)
        · rw [if_pos c5] at H
          have c5b0 := eq_true c5
          have c5b1 : decide (0 ≤ (l1.length : Int)) = true := decide_eq_true c5
          clear c5
          by_cases c6 : ((l1.length : Int) : Int).toNat ≤ 281474976710656
          · rw [if_pos c6] at H
            have c6b0 := eq_true c6
            have c6b1 : decide (((l1.length : Int) : Int).toNat ≤ 281474976710656) = true := decide_eq_true c6
            clear c6
            obtain ⟨y161, hy161⟩ : ∃ y_ : List Bool, y_ = (List.replicate ((l1.length : Int) : Int).toNat false) := ⟨_, rfl⟩
            replace H : (if 0 ≤ (wrap64 (x9_1 + 1)) then (if (wrap64 (x9_1 + 1)) ≤ (l2.length : Int) then (if y161.length + (l2.take ((wrap64 (x9_1 + 1)) : Int).toNat).length < 140737488355328 then ((some (([] : List Int) : List Int)).bind fun y168 => (if y168.length + l1.length < 17592186044416 then ((impl_Merge.f k1 a0 (y168 ++ l1) (cpyb y161 (l2.take ((wrap64 (x9_1 + 1)) : Int).toNat)) x9_1 (l1.length : Int)).bind fun bt174 => (if bt174.2.2 = 0 then (if bt174.1 = 1 then (laws_merged.l0 k1 a0 l1 l2 (wrap64 (x9_1 + 1))) else (some (bt174.1, bt174.2.1, true))) else (some (0, 0, false)))) else (none))) else (none)) else (none)) else (none)) = some (r1, r2, r3) := by first | (rw [hy161]; with_reducible exact H) | (have H2_ := (Option.bind_some _ _).symm.trans H; rw [hy161]; with_reducible exact H2_) | (have H2_ := (Option.bind_some _ _).symm.trans H; with_reducible exact H2_) | with_reducible exact H | (rw [hy161]; exact H) | exact H
            have Ny161 := Aside0.mk hy161
            clear hy161
            obtain ⟨ji7, hji7⟩ : ∃ j_ : Int, (wrap64 (x9_1 + 1)) = j_ := ⟨_, rfl⟩
            replace H : (if 0 ≤ (ji7) then (if (ji7) ≤ (l2.length : Int) then (if y161.length + (l2.take ((ji7) : Int).toNat).length < 140737488355328 then ((some (([] : List Int) : List Int)).bind fun y168 => (if y168.length + l1.length < 17592186044416 then ((impl_Merge.f k1 a0 (y168 ++ l1) (cpyb y161 (l2.take ((ji7) : Int).toNat)) x9_1 (l1.length : Int)).bind fun bt174 => (if bt174.2.2 = 0 then (if bt174.1 = 1 then (laws_merged.l0 k1 a0 l1 l2 ji7) else (some (bt174.1, bt174.2.1, true))) else (some (0, 0, false)))) else (none))) else (none)) else (none)) else (none)) = some (r1, r2, r3) := by first | (rw [hji7] at H; exact H) | (simp only [hji7] at H ⊢; exact H)
            have hji7w : (IntKind.i64.wrap (x9_1 + 1)) = ji7 := (i64_w _).trans hji7
            by_cases c8 : 0 ≤ (ji7)
            · rw [if_pos c8] at H
              have c8b0 := eq_true c8
              have c8b1 : decide (0 ≤ (ji7)) = true := decide_eq_true c8
              clear c8
              by_cases c9 : (ji7) ≤ (l2.length : Int)
              · rw [if_pos c9] at H
                have c9b0 := eq_true c9
                have c9b1 : decide ((ji7) ≤ (l2.length : Int)) = true := decide_eq_true c9
                clear c9
                by_cases c10 : y161.length + (l2.take ((ji7) : Int).toNat).length < 140737488355328
                · rw [if_pos c10] at H
                  have LMc10 := Aside0.mk c10
                  clear c10
                  obtain ⟨y165, hy165⟩ : ∃ y_ : List Bool, y_ = (cpyb y161 (l2.take ((ji7) : Int).toNat)) := ⟨_, rfl⟩
                  replace H : ((some (([] : List Int) : List Int)).bind fun y168 => (if y168.length + l1.length < 17592186044416 then ((impl_Merge.f k1 a0 (y168 ++ l1) y165 x9_1 (l1.length : Int)).bind fun bt174 => (if bt174.2.2 = 0 then (if bt174.1 = 1 then (laws_merged.l0 k1 a0 l1 l2 ji7) else (some (bt174.1, bt174.2.1, true))) else (some (0, 0, false)))) else (none))) = some (r1, r2, r3) := by first | (rw [hy165]; with_reducible exact H) | (have H2_ := (Option.bind_some _ _).symm.trans H; rw [hy165]; with_reducible exact H2_) | (have H2_ := (Option.bind_some _ _).symm.trans H; with_reducible exact H2_) | with_reducible exact H | (rw [hy165]; exact H) | exact H
                  have Ny165 := Aside0.mk hy165
                  clear hy165
                  obtain ⟨y168, hy168⟩ : ∃ y_ : List Int, y_ = (([] : List Int)) := ⟨_, rfl⟩
                  replace H : (if y168.length + l1.length < 17592186044416 then ((impl_Merge.f k1 a0 (y168 ++ l1) y165 x9_1 (l1.length : Int)).bind fun bt174 => (if bt174.2.2 = 0 then (if bt174.1 = 1 then (laws_merged.l0 k1 a0 l1 l2 ji7) else (some (bt174.1, bt174.2.1, true))) else (some (0, 0, false)))) else (none)) = some (r1, r2, r3) := by first | (rw [hy168]; with_reducible exact H) | (have H2_ := (Option.bind_some _ _).symm.trans H; rw [hy168]; with_reducible exact H2_) | (have H2_ := (Option.bind_some _ _).symm.trans H; with_reducible exact H2_) | with_reducible exact H | (rw [hy168]; exact H) | exact H
                  have Ny168 := Aside0.mk hy168
                  clear hy168
                  by_cases c11 : y168.length + l1.length < 17592186044416
                  · rw [if_pos c11] at H
                    have LMc11 := Aside0.mk c11
                    clear c11
                    obtain ⟨y171, hy171⟩ : ∃ y_ : List Int, y_ = (y168 ++ l1) := ⟨_, rfl⟩
                    replace H : ((impl_Merge.f k1 a0 y171 y165 x9_1 (l1.length : Int)).bind fun bt174 => (if bt174.2.2 = 0 then (if bt174.1 = 1 then (laws_merged.l0 k1 a0 l1 l2 ji7) else (some (bt174.1, bt174.2.1, true))) else (some (0, 0, false)))) = some (r1, r2, r3) := by first | (rw [hy171]; with_reducible exact H) | (have H2_ := (Option.bind_some _ _).symm.trans H; rw [hy171]; with_reducible exact H2_) | (have H2_ := (Option.bind_some _ _).symm.trans H; with_reducible exact H2_) | with_reducible exact H | (rw [hy171]; exact H) | exact H
                    have Ny171 := Aside0.mk hy171
                    clear hy171
                    replace H := Option.bind_eq_some_iff.mp H
                    obtain ⟨⟨t174, t175, t176⟩, A120, H⟩ := H
                    replace H : (if t176 = 0 then (if t174 = 1 then (laws_merged.l0 k1 a0 l1 l2 ji7) else (some (t174, t175, true))) else (some (0, 0, false))) = some (r1, r2, r3) := H
                    have A12 := Aside0.mk A120
                    clear A120
                    by_cases c13 : t176 = 0
                    · rw [if_pos c13] at H
                      have c13b0 : (t176 == 0) = true := beq_iff_eq.mpr c13
                      have c13b1 : (t176 != 0) = false := bne_eq_false_iff_eq.mpr c13
                      clear c13
                      by_cases c14 : t174 = 1
                      · rw [if_pos c14] at H
                        have c14b0 : (t174 == 1) = true := beq_iff_eq.mpr c14
                        have c14b1 : (t174 != 1) = false := bne_eq_false_iff_eq.mpr c14
                        clear c14
                        have H' := Aside0.mk H
                        clear H
                        go_wp2_with (first | ((with_reducible refine gate_dst (N := 22) rfl ?_); refine Kd.R_make Kd.bool _ 4 rfl (N := 22) rfl 40 _ _ rfl (l1.length : Int) rfl rfl Try.underlying40 (.bool false) 1 infoM4 rfl (by decide) (by omega) false (ok := fun _ => True) (okp := fun _ => True) rfl (fun _ hk => hk) trivial (of_decide_eq_true (by first | (with_reducible assumption) | assumption)) (Nat.le_trans (Nat.mul_le_mul_right _ (of_decide_eq_true (by first | (with_reducible assumption) | assumption) : (l1.length : Int).toNat ≤ 281474976710656)) (by omega)) (Below.refl _ _) (Nat.le_refl _) ?_; intro v162 w15 ho16 hb hg_ hnew_; clear hg_ hnew_; (first | rw [← Ny161.out] at ho16 | (simp only [Int.reduceToNat] at ho16; rw [← Ny161.out] at ho16)); have n0_ := Aside0.mk (Kd.R_lower ho16 (below_size (by repeat (first | (with_reducible first | exact HB.out | apply below_alloc | apply pw_below_drewN | apply below_drew1) | exact HB.out)))); have n1_ := Aside0.mk (below_step (by repeat (first | (with_reducible first | exact HB.out | apply below_alloc | apply pw_below_drewN | apply below_drew1) | exact HB.out)) hb); clear HB; have HO163 := n0_; have HB := n1_; clear n0_ n1_; clear hb ho16; obtain ⟨i017, hi017, _, hsz17, _⟩ := info_parts infoM4; obtain ⟨hcut17, hA17, hC17⟩ := print_take_of (P := Try.prog) Value.bool false 40 4 .i64 Try.underlying40 hi017 hsz17 A2 c2 l2 (ji7) (of_decide_eq_true (by first | (with_reducible assumption) | assumption)) (of_decide_eq_true (by first | (with_reducible assumption) | assumption)) HC2.out; have HR164 := Aside0.mk (Kd.C_of_reads (h1 := fun _ => rfl) (hA17 _ (Kd.reads_of_C HR2.out))); have HC164 := Aside0.mk hC17; clear hA17 hC17 hi017 hsz17) | ((with_reducible refine gate_builtin (b := .copy) (xs := #[.tmp 23, .tmp 27]) rfl ?_); refine Kd.R_copy (enc := Value.bool) (h1 := fun _ => rfl) false (w0 := w) w.heap.size rfl (.tmp 23) (.tmp 27) 40 40 4 rfl Try.underlying40 ?cI v162 y161 (l2.take ((ji7) : Int).toNat) A2 (ji7).toNat c2 (fun _ => True) rfl rfl ?cO ?cR ?cB ?cS ?_; (case cI => kernel_rfl); (case cR => (have hlx_ := (show (l2.take ((ji7) : Int).toNat).length = (ji7).toNat from (by rw [List.length_take]; have h_ : ((ji7) : Int) ≤ (l2.length : Int) := of_decide_eq_true (by first | (with_reducible assumption) | assumption); omega)); have q := Kd.C_below HR164.out HB.out; rw [hlx_] at q; exact q)); (case cB => exact (by repeat (first | (with_reducible first | exact HB.out | apply below_alloc | apply pw_below_drewN | apply below_drew1) | exact HB.out))); (case cO => exact (by (with_reducible repeat (first | apply Kd.R_alloc | apply Kd.R_drewN | apply Kd.R_drew)); exact HO163.out)); (case cS => exact (below_size (by repeat (first | (with_reducible first | exact HB.out | apply below_alloc | apply pw_below_drewN | apply below_drew1) | exact HB.out)))); intro w18 ho hb hg; have ho2 : Kd.R Kd.bool 4 w18 w.heap.size (fun _ => True) v162 (cpyb y161 (l2.take ((ji7) : Int).toNat)) := (by unfold cpyb; rw [(show (l2.take ((ji7) : Int).toNat).length = (ji7).toNat from (by rw [List.length_take]; have h_ : ((ji7) : Int) ≤ (l2.length : Int) := of_decide_eq_true (by first | (with_reducible assumption) | assumption); omega))]; exact ho); rw [← Ny165.out] at ho2; have n0_ := Aside0.mk (hb); have n1_ := Aside0.mk (ho2); clear HB; clear HO163; have HB := n0_; have HO167 := n1_; clear n0_ n1_; clear ho ho2 hb hg) | ((with_reducible refine gate_dst (N := 31) rfl ?_); refine Kd.R_lit (Kd.int .i64) _ 3 ?hg (N := 31) ?hd (xs := ([] : List Int)) (inner := []) (ok := fun _ => True) (okp := fun _ => True) ?hr ?hp (fun _ hk => hk) trivial (Below.refl _ _) (Nat.le_refl _) (by simp) ?_; (case hd => rfl); (case hg => rfl); (case hr => first | (go_simp; done) | (go_simp; rfl)); (case hp => exact (Reps.none _ _)); intro v169 w19 ho20 hb hg_ hnew_; clear hg_ hnew_; (first | rw [← Ny168.out] at ho20 | (simp only [Int.reduceToNat] at ho20; rw [← Ny168.out] at ho20)); have n0_ := Aside0.mk (Kd.R_below (by (with_reducible repeat (first | apply Kd.R_alloc | apply Kd.R_drewN | apply Kd.R_drew)); exact HO167.out) hb); have n1_ := Aside0.mk (Kd.R_lower ho20 (below_size (by repeat (first | (with_reducible first | exact HB.out | apply below_alloc | apply pw_below_drewN | apply below_drew1) | exact HB.out)))); have n2_ := Aside0.mk (below_step (by repeat (first | (with_reducible first | exact HB.out | apply below_alloc | apply pw_below_drewN | apply below_drew1) | exact HB.out)) hb); clear HO167; clear HB; have HO167 := n0_; have HO170 := n1_; have HB := n2_; clear n0_ n1_ n2_; clear hb ho20) | ((with_reducible refine gate_builtin (b := .append) (xs := #[.tmp 31, .tmp 32]) rfl ?_); at_builtin; refine Kd.R_append_rows (Kd.int .i64) (w0 := w) w.heap.size rfl (.tmp 31) (.tmp 32) 39 3 (.int .i64 0) 8 rfl Try.underlying39 infoM3 rfl (by decide) (by omega) v169 y168 l1 _ _ _ (fun _ => True) (fun _ => False) rfl rfl ?aO ?aR (fun _ _ h => h) (fun _ h => h.elim) ?aF ?aB ?aS ?aL ?_; (case aR => repeat (first | exact (Kd.C_below HR1.out HB.out) | (with_reducible refine Kd.C_alloc ?_ _) | (with_reducible refine Kd.C_drewN ?_ _) | (with_reducible refine Kd.C_drew ?_))); (case aB => exact (by repeat (first | (with_reducible first | exact HB.out | apply below_alloc | apply pw_below_drewN | apply below_drew1) | exact HB.out))); (case aF => exact (fun _ _ => trivial)); (case aO => exact (by (with_reducible repeat (first | apply Kd.R_alloc | apply Kd.R_drewN | apply Kd.R_drew)); exact HO170.out)); (case aS => exact (below_size (by repeat (first | (with_reducible first | exact HB.out | apply below_alloc | apply pw_below_drewN | apply below_drew1) | exact HB.out)))); (case aL => have := LMc11.out; omega); intro v172 w21 ho hb hg hat; rw [← Ny171.out] at ho; have n0_ := Aside0.mk (Kd.R_over' (by (with_reducible repeat (first | apply Kd.R_alloc | apply Kd.R_drewN | apply Kd.R_drew)); exact HO167.out) (Kd.R_typed (by (with_reducible repeat (first | apply Kd.R_alloc | apply Kd.R_drewN | apply Kd.R_drew)); exact HO170.out)) (by decide) hg); have n1_ := Aside0.mk (hb); have n2_ := Aside0.mk (ho); clear HO167; clear HB; clear HO170; have HO167 := n0_; have HB := n1_; have HO173 := n2_; clear n0_ n1_ n2_; clear ho hb hg hat; obtain ⟨Ao22, co22, eo22⟩ := Kd.R_slice HO173.out; subst eo22; obtain ⟨Ao23, co23, eo23⟩ := Kd.R_slice HO167.out; subst eo23) | ((with_reducible refine gate_callee (f := 34) rfl ?_); refine goesL_ (some 38) rfl rfl Try.func34 (by kernel_rfl) rfl #[.string a0, .slice Ao22 y171.length co22, .slice Ao23 y165.length co23, .int .i64 x9_1, .int .i64 (l1.length : Int)] rfl (by (try simp only [List.map_toArray, List.map_cons, List.map_nil]); first | done | rfl | (simp only [List.length_drop, List.length_take]; rfl)) ?_; (with_reducible refine (impl_Merge.calls k1 a0 _ _ y171 _ _ y165 x9_1 (l1.length : Int) t174 t175 t176 _ ?side1 ?side2 ?side3 ?side4 A12.out).mono ?_); (case side1 => repeat (first | exact (Kd.R_reads' HO173.out).2.2 | (with_reducible refine Kd.C_alloc ?_ _) | (with_reducible refine Kd.C_drewN ?_ _) | (with_reducible refine Kd.C_drew ?_))); (case side2 => exact (Kd.R_reads' HO173.out).2.1); (case side3 => repeat (first | exact (Kd.R_reads' HO167.out).2.2 | (with_reducible refine Kd.C_alloc ?_ _) | (with_reducible refine Kd.C_drewN ?_ _) | (with_reducible refine Kd.C_drew ?_))); (case side4 => exact (Kd.R_reads' HO167.out).2.1); rintro e w24 ⟨rfl, hb⟩; refine ⟨_, rfl, ?_⟩; have n0_ := Aside0.mk (Kd.R_below (by (with_reducible repeat (first | apply Kd.R_alloc | apply Kd.R_drewN | apply Kd.R_drew)); exact HO167.out) hb); have n1_ := Aside0.mk (Kd.R_below (by (with_reducible repeat (first | apply Kd.R_alloc | apply Kd.R_drewN | apply Kd.R_drew)); exact HO173.out) hb); have n2_ := Aside0.mk (below_step (by repeat (first | (with_reducible first | exact HB.out | apply below_alloc | apply pw_below_drewN | apply below_drew1) | exact HB.out)) hb); clear HO167; clear HO173; clear HB; have HO167 := n0_; have HO173 := n1_; have HB := n2_; clear n0_ n1_ n2_; (try clear hb); (try clear hb2); (try clear hk); (try clear hi)))
                        go_roundg k1
                        case measure => have := HK1.out; omega
                        case rel => exact ⟨(ji7), (by first | rfl | (simp; done) | (simp only [← hji7] <;> (first | rfl | simp)) | (simp [*]; done)), H', ⟨by have := HK1.out; omega⟩, ⟨by repeat (first | (with_reducible first | exact HB.out | apply below_alloc | apply pw_below_drewN | apply below_drew1) | exact HB.out)⟩⟩
                      · rw [if_neg c14] at H
                        have c14b0 : (t174 == 1) = false := beq_eq_false_iff_ne.mpr c14
                        have c14b1 : (t174 != 1) = true := bne_iff_ne.mpr c14
                        simp only [Option.some.injEq, Prod.mk.injEq] at H
                        obtain ⟨rfl, rfl, rfl⟩ := H
                        go_wp2_with (first | ((with_reducible refine gate_dst (N := 22) rfl ?_); refine Kd.R_make Kd.bool _ 4 rfl (N := 22) rfl 40 _ _ rfl (l1.length : Int) rfl rfl Try.underlying40 (.bool false) 1 infoM4 rfl (by decide) (by omega) false (ok := fun _ => True) (okp := fun _ => True) rfl (fun _ hk => hk) trivial (of_decide_eq_true (by first | (with_reducible assumption) | assumption)) (Nat.le_trans (Nat.mul_le_mul_right _ (of_decide_eq_true (by first | (with_reducible assumption) | assumption) : (l1.length : Int).toNat ≤ 281474976710656)) (by omega)) (Below.refl _ _) (Nat.le_refl _) ?_; intro v162 w25 ho26 hb hg_ hnew_; clear hg_ hnew_; (first | rw [← Ny161.out] at ho26 | (simp only [Int.reduceToNat] at ho26; rw [← Ny161.out] at ho26)); have n0_ := Aside0.mk (Kd.R_lower ho26 (below_size (by repeat (first | (with_reducible first | exact HB.out | apply below_alloc | apply pw_below_drewN | apply below_drew1) | exact HB.out)))); have n1_ := Aside0.mk (below_step (by repeat (first | (with_reducible first | exact HB.out | apply below_alloc | apply pw_below_drewN | apply below_drew1) | exact HB.out)) hb); clear HB; have HO163 := n0_; have HB := n1_; clear n0_ n1_; clear hb ho26; obtain ⟨i027, hi027, _, hsz27, _⟩ := info_parts infoM4; obtain ⟨hcut27, hA27, hC27⟩ := print_take_of (P := Try.prog) Value.bool false 40 4 .i64 Try.underlying40 hi027 hsz27 A2 c2 l2 (ji7) (of_decide_eq_true (by first | (with_reducible assumption) | assumption)) (of_decide_eq_true (by first | (with_reducible assumption) | assumption)) HC2.out; have HR164 := Aside0.mk (Kd.C_of_reads (h1 := fun _ => rfl) (hA27 _ (Kd.reads_of_C HR2.out))); have HC164 := Aside0.mk hC27; clear hA27 hC27 hi027 hsz27) | ((with_reducible refine gate_builtin (b := .copy) (xs := #[.tmp 23, .tmp 27]) rfl ?_); refine Kd.R_copy (enc := Value.bool) (h1 := fun _ => rfl) false (w0 := w) w.heap.size rfl (.tmp 23) (.tmp 27) 40 40 4 rfl Try.underlying40 ?cI v162 y161 (l2.take ((ji7) : Int).toNat) A2 (ji7).toNat c2 (fun _ => True) rfl rfl ?cO ?cR ?cB ?cS ?_; (case cI => kernel_rfl); (case cR => (have hlx_ := (show (l2.take ((ji7) : Int).toNat).length = (ji7).toNat from (by rw [List.length_take]; have h_ : ((ji7) : Int) ≤ (l2.length : Int) := of_decide_eq_true (by first | (with_reducible assumption) | assumption); omega)); have q := Kd.C_below HR164.out HB.out; rw [hlx_] at q; exact q)); (case cB => exact (by repeat (first | (with_reducible first | exact HB.out | apply below_alloc | apply pw_below_drewN | apply below_drew1) | exact HB.out))); (case cO => exact (by (with_reducible repeat (first | apply Kd.R_alloc | apply Kd.R_drewN | apply Kd.R_drew)); exact HO163.out)); (case cS => exact (below_size (by repeat (first | (with_reducible first | exact HB.out | apply below_alloc | apply pw_below_drewN | apply below_drew1) | exact HB.out)))); intro w18 ho hb hg; have ho2 : Kd.R Kd.bool 4 w18 w.heap.size (fun _ => True) v162 (cpyb y161 (l2.take ((ji7) : Int).toNat)) := (by unfold cpyb; rw [(show (l2.take ((ji7) : Int).toNat).length = (ji7).toNat from (by rw [List.length_take]; have h_ : ((ji7) : Int) ≤ (l2.length : Int) := of_decide_eq_true (by first | (with_reducible assumption) | assumption); omega))]; exact ho); rw [← Ny165.out] at ho2; have n0_ := Aside0.mk (hb); have n1_ := Aside0.mk (ho2); clear HB; clear HO163; have HB := n0_; have HO167 := n1_; clear n0_ n1_; clear ho ho2 hb hg) | ((with_reducible refine gate_dst (N := 31) rfl ?_); refine Kd.R_lit (Kd.int .i64) _ 3 ?hg (N := 31) ?hd (xs := ([] : List Int)) (inner := []) (ok := fun _ => True) (okp := fun _ => True) ?hr ?hp (fun _ hk => hk) trivial (Below.refl _ _) (Nat.le_refl _) (by simp) ?_; (case hd => rfl); (case hg => rfl); (case hr => first | (go_simp; done) | (go_simp; rfl)); (case hp => exact (Reps.none _ _)); intro v169 w29 ho30 hb hg_ hnew_; clear hg_ hnew_; (first | rw [← Ny168.out] at ho30 | (simp only [Int.reduceToNat] at ho30; rw [← Ny168.out] at ho30)); have n0_ := Aside0.mk (Kd.R_below (by (with_reducible repeat (first | apply Kd.R_alloc | apply Kd.R_drewN | apply Kd.R_drew)); exact HO167.out) hb); have n1_ := Aside0.mk (Kd.R_lower ho30 (below_size (by repeat (first | (with_reducible first | exact HB.out | apply below_alloc | apply pw_below_drewN | apply below_drew1) | exact HB.out)))); have n2_ := Aside0.mk (below_step (by repeat (first | (with_reducible first | exact HB.out | apply below_alloc | apply pw_below_drewN | apply below_drew1) | exact HB.out)) hb); clear HO167; clear HB; have HO167 := n0_; have HO170 := n1_; have HB := n2_; clear n0_ n1_ n2_; clear hb ho30) | ((with_reducible refine gate_builtin (b := .append) (xs := #[.tmp 31, .tmp 32]) rfl ?_); at_builtin; refine Kd.R_append_rows (Kd.int .i64) (w0 := w) w.heap.size rfl (.tmp 31) (.tmp 32) 39 3 (.int .i64 0) 8 rfl Try.underlying39 infoM3 rfl (by decide) (by omega) v169 y168 l1 _ _ _ (fun _ => True) (fun _ => False) rfl rfl ?aO ?aR (fun _ _ h => h) (fun _ h => h.elim) ?aF ?aB ?aS ?aL ?_; (case aR => repeat (first | exact (Kd.C_below HR1.out HB.out) | (with_reducible refine Kd.C_alloc ?_ _) | (with_reducible refine Kd.C_drewN ?_ _) | (with_reducible refine Kd.C_drew ?_))); (case aB => exact (by repeat (first | (with_reducible first | exact HB.out | apply below_alloc | apply pw_below_drewN | apply below_drew1) | exact HB.out))); (case aF => exact (fun _ _ => trivial)); (case aO => exact (by (with_reducible repeat (first | apply Kd.R_alloc | apply Kd.R_drewN | apply Kd.R_drew)); exact HO170.out)); (case aS => exact (below_size (by repeat (first | (with_reducible first | exact HB.out | apply below_alloc | apply pw_below_drewN | apply below_drew1) | exact HB.out)))); (case aL => have := LMc11.out; omega); intro v172 w31 ho hb hg hat; rw [← Ny171.out] at ho; have n0_ := Aside0.mk (Kd.R_over' (by (with_reducible repeat (first | apply Kd.R_alloc | apply Kd.R_drewN | apply Kd.R_drew)); exact HO167.out) (Kd.R_typed (by (with_reducible repeat (first | apply Kd.R_alloc | apply Kd.R_drewN | apply Kd.R_drew)); exact HO170.out)) (by decide) hg); have n1_ := Aside0.mk (hb); have n2_ := Aside0.mk (ho); clear HO167; clear HB; clear HO170; have HO167 := n0_; have HB := n1_; have HO173 := n2_; clear n0_ n1_ n2_; clear ho hb hg hat; obtain ⟨Ao32, co32, eo32⟩ := Kd.R_slice HO173.out; subst eo32; obtain ⟨Ao33, co33, eo33⟩ := Kd.R_slice HO167.out; subst eo33) | ((with_reducible refine gate_callee (f := 34) rfl ?_); refine goesL_ (some 38) rfl rfl Try.func34 (by kernel_rfl) rfl #[.string a0, .slice Ao32 y171.length co32, .slice Ao33 y165.length co33, .int .i64 x9_1, .int .i64 (l1.length : Int)] rfl (by (try simp only [List.map_toArray, List.map_cons, List.map_nil]); first | done | rfl | (simp only [List.length_drop, List.length_take]; rfl)) ?_; (with_reducible refine (impl_Merge.calls k1 a0 _ _ y171 _ _ y165 x9_1 (l1.length : Int) t174 t175 t176 _ ?side1 ?side2 ?side3 ?side4 A12.out).mono ?_); (case side1 => repeat (first | exact (Kd.R_reads' HO173.out).2.2 | (with_reducible refine Kd.C_alloc ?_ _) | (with_reducible refine Kd.C_drewN ?_ _) | (with_reducible refine Kd.C_drew ?_))); (case side2 => exact (Kd.R_reads' HO173.out).2.1); (case side3 => repeat (first | exact (Kd.R_reads' HO167.out).2.2 | (with_reducible refine Kd.C_alloc ?_ _) | (with_reducible refine Kd.C_drewN ?_ _) | (with_reducible refine Kd.C_drew ?_))); (case side4 => exact (Kd.R_reads' HO167.out).2.1); rintro e w34 ⟨rfl, hb⟩; refine ⟨_, rfl, ?_⟩; have n0_ := Aside0.mk (Kd.R_below (by (with_reducible repeat (first | apply Kd.R_alloc | apply Kd.R_drewN | apply Kd.R_drew)); exact HO167.out) hb); have n1_ := Aside0.mk (Kd.R_below (by (with_reducible repeat (first | apply Kd.R_alloc | apply Kd.R_drewN | apply Kd.R_drew)); exact HO173.out) hb); have n2_ := Aside0.mk (below_step (by repeat (first | (with_reducible first | exact HB.out | apply below_alloc | apply pw_below_drewN | apply below_drew1) | exact HB.out)) hb); clear HO167; clear HO173; clear HB; have HO167 := n0_; have HO173 := n1_; have HB := n2_; clear n0_ n1_ n2_; (try clear hb); (try clear hb2); (try clear hk); (try clear hi)))
                        go_ret3
                        exact ⟨by first | rfl | (simp [errW_none, errW_some] <;> rfl) | (simp only [← hji7]; first | rfl | (simp [errW_none, errW_some] <;> rfl)) | (simp [*, errW_none, errW_some] <;> rfl), by repeat (first | (with_reducible first | exact HB.out | apply below_alloc | apply pw_below_drewN | apply below_drew1) | exact HB.out)⟩
                    · rw [if_neg c13] at H
                      have c13b0 : (t176 == 0) = false := beq_eq_false_iff_ne.mpr c13
                      have c13b1 : (t176 != 0) = true := bne_iff_ne.mpr c13
                      simp only [Option.some.injEq, Prod.mk.injEq] at H
                      obtain ⟨rfl, rfl, rfl⟩ := H
                      go_wp2_with (first | ((with_reducible refine gate_dst (N := 22) rfl ?_); refine Kd.R_make Kd.bool _ 4 rfl (N := 22) rfl 40 _ _ rfl (l1.length : Int) rfl rfl Try.underlying40 (.bool false) 1 infoM4 rfl (by decide) (by omega) false (ok := fun _ => True) (okp := fun _ => True) rfl (fun _ hk => hk) trivial (of_decide_eq_true (by first | (with_reducible assumption) | assumption)) (Nat.le_trans (Nat.mul_le_mul_right _ (of_decide_eq_true (by first | (with_reducible assumption) | assumption) : (l1.length : Int).toNat ≤ 281474976710656)) (by omega)) (Below.refl _ _) (Nat.le_refl _) ?_; intro v162 w35 ho36 hb hg_ hnew_; clear hg_ hnew_; (first | rw [← Ny161.out] at ho36 | (simp only [Int.reduceToNat] at ho36; rw [← Ny161.out] at ho36)); have n0_ := Aside0.mk (Kd.R_lower ho36 (below_size (by repeat (first | (with_reducible first | exact HB.out | apply below_alloc | apply pw_below_drewN | apply below_drew1) | exact HB.out)))); have n1_ := Aside0.mk (below_step (by repeat (first | (with_reducible first | exact HB.out | apply below_alloc | apply pw_below_drewN | apply below_drew1) | exact HB.out)) hb); clear HB; have HO163 := n0_; have HB := n1_; clear n0_ n1_; clear hb ho36; obtain ⟨i037, hi037, _, hsz37, _⟩ := info_parts infoM4; obtain ⟨hcut37, hA37, hC37⟩ := print_take_of (P := Try.prog) Value.bool false 40 4 .i64 Try.underlying40 hi037 hsz37 A2 c2 l2 (ji7) (of_decide_eq_true (by first | (with_reducible assumption) | assumption)) (of_decide_eq_true (by first | (with_reducible assumption) | assumption)) HC2.out; have HR164 := Aside0.mk (Kd.C_of_reads (h1 := fun _ => rfl) (hA37 _ (Kd.reads_of_C HR2.out))); have HC164 := Aside0.mk hC37; clear hA37 hC37 hi037 hsz37) | ((with_reducible refine gate_builtin (b := .copy) (xs := #[.tmp 23, .tmp 27]) rfl ?_); refine Kd.R_copy (enc := Value.bool) (h1 := fun _ => rfl) false (w0 := w) w.heap.size rfl (.tmp 23) (.tmp 27) 40 40 4 rfl Try.underlying40 ?cI v162 y161 (l2.take ((ji7) : Int).toNat) A2 (ji7).toNat c2 (fun _ => True) rfl rfl ?cO ?cR ?cB ?cS ?_; (case cI => kernel_rfl); (case cR => (have hlx_ := (show (l2.take ((ji7) : Int).toNat).length = (ji7).toNat from (by rw [List.length_take]; have h_ : ((ji7) : Int) ≤ (l2.length : Int) := of_decide_eq_true (by first | (with_reducible assumption) | assumption); omega)); have q := Kd.C_below HR164.out HB.out; rw [hlx_] at q; exact q)); (case cB => exact (by repeat (first | (with_reducible first | exact HB.out | apply below_alloc | apply pw_below_drewN | apply below_drew1) | exact HB.out))); (case cO => exact (by (with_reducible repeat (first | apply Kd.R_alloc | apply Kd.R_drewN | apply Kd.R_drew)); exact HO163.out)); (case cS => exact (below_size (by repeat (first | (with_reducible first | exact HB.out | apply below_alloc | apply pw_below_drewN | apply below_drew1) | exact HB.out)))); intro w18 ho hb hg; have ho2 : Kd.R Kd.bool 4 w18 w.heap.size (fun _ => True) v162 (cpyb y161 (l2.take ((ji7) : Int).toNat)) := (by unfold cpyb; rw [(show (l2.take ((ji7) : Int).toNat).length = (ji7).toNat from (by rw [List.length_take]; have h_ : ((ji7) : Int) ≤ (l2.length : Int) := of_decide_eq_true (by first | (with_reducible assumption) | assumption); omega))]; exact ho); rw [← Ny165.out] at ho2; have n0_ := Aside0.mk (hb); have n1_ := Aside0.mk (ho2); clear HB; clear HO163; have HB := n0_; have HO167 := n1_; clear n0_ n1_; clear ho ho2 hb hg) | ((with_reducible refine gate_dst (N := 31) rfl ?_); refine Kd.R_lit (Kd.int .i64) _ 3 ?hg (N := 31) ?hd (xs := ([] : List Int)) (inner := []) (ok := fun _ => True) (okp := fun _ => True) ?hr ?hp (fun _ hk => hk) trivial (Below.refl _ _) (Nat.le_refl _) (by simp) ?_; (case hd => rfl); (case hg => rfl); (case hr => first | (go_simp; done) | (go_simp; rfl)); (case hp => exact (Reps.none _ _)); intro v169 w39 ho40 hb hg_ hnew_; clear hg_ hnew_; (first | rw [← Ny168.out] at ho40 | (simp only [Int.reduceToNat] at ho40; rw [← Ny168.out] at ho40)); have n0_ := Aside0.mk (Kd.R_below (by (with_reducible repeat (first | apply Kd.R_alloc | apply Kd.R_drewN | apply Kd.R_drew)); exact HO167.out) hb); have n1_ := Aside0.mk (Kd.R_lower ho40 (below_size (by repeat (first | (with_reducible first | exact HB.out | apply below_alloc | apply pw_below_drewN | apply below_drew1) | exact HB.out)))); have n2_ := Aside0.mk (below_step (by repeat (first | (with_reducible first | exact HB.out | apply below_alloc | apply pw_below_drewN | apply below_drew1) | exact HB.out)) hb); clear HO167; clear HB; have HO167 := n0_; have HO170 := n1_; have HB := n2_; clear n0_ n1_ n2_; clear hb ho40) | ((with_reducible refine gate_builtin (b := .append) (xs := #[.tmp 31, .tmp 32]) rfl ?_); at_builtin; refine Kd.R_append_rows (Kd.int .i64) (w0 := w) w.heap.size rfl (.tmp 31) (.tmp 32) 39 3 (.int .i64 0) 8 rfl Try.underlying39 infoM3 rfl (by decide) (by omega) v169 y168 l1 _ _ _ (fun _ => True) (fun _ => False) rfl rfl ?aO ?aR (fun _ _ h => h) (fun _ h => h.elim) ?aF ?aB ?aS ?aL ?_; (case aR => repeat (first | exact (Kd.C_below HR1.out HB.out) | (with_reducible refine Kd.C_alloc ?_ _) | (with_reducible refine Kd.C_drewN ?_ _) | (with_reducible refine Kd.C_drew ?_))); (case aB => exact (by repeat (first | (with_reducible first | exact HB.out | apply below_alloc | apply pw_below_drewN | apply below_drew1) | exact HB.out))); (case aF => exact (fun _ _ => trivial)); (case aO => exact (by (with_reducible repeat (first | apply Kd.R_alloc | apply Kd.R_drewN | apply Kd.R_drew)); exact HO170.out)); (case aS => exact (below_size (by repeat (first | (with_reducible first | exact HB.out | apply below_alloc | apply pw_below_drewN | apply below_drew1) | exact HB.out)))); (case aL => have := LMc11.out; omega); intro v172 w41 ho hb hg hat; rw [← Ny171.out] at ho; have n0_ := Aside0.mk (Kd.R_over' (by (with_reducible repeat (first | apply Kd.R_alloc | apply Kd.R_drewN | apply Kd.R_drew)); exact HO167.out) (Kd.R_typed (by (with_reducible repeat (first | apply Kd.R_alloc | apply Kd.R_drewN | apply Kd.R_drew)); exact HO170.out)) (by decide) hg); have n1_ := Aside0.mk (hb); have n2_ := Aside0.mk (ho); clear HO167; clear HB; clear HO170; have HO167 := n0_; have HB := n1_; have HO173 := n2_; clear n0_ n1_ n2_; clear ho hb hg hat; obtain ⟨Ao42, co42, eo42⟩ := Kd.R_slice HO173.out; subst eo42; obtain ⟨Ao43, co43, eo43⟩ := Kd.R_slice HO167.out; subst eo43) | ((with_reducible refine gate_callee (f := 34) rfl ?_); refine goesL_ (some 38) rfl rfl Try.func34 (by kernel_rfl) rfl #[.string a0, .slice Ao42 y171.length co42, .slice Ao43 y165.length co43, .int .i64 x9_1, .int .i64 (l1.length : Int)] rfl (by (try simp only [List.map_toArray, List.map_cons, List.map_nil]); first | done | rfl | (simp only [List.length_drop, List.length_take]; rfl)) ?_; (with_reducible refine (impl_Merge.calls k1 a0 _ _ y171 _ _ y165 x9_1 (l1.length : Int) t174 t175 t176 _ ?side1 ?side2 ?side3 ?side4 A12.out).mono ?_); (case side1 => repeat (first | exact (Kd.R_reads' HO173.out).2.2 | (with_reducible refine Kd.C_alloc ?_ _) | (with_reducible refine Kd.C_drewN ?_ _) | (with_reducible refine Kd.C_drew ?_))); (case side2 => exact (Kd.R_reads' HO173.out).2.1); (case side3 => repeat (first | exact (Kd.R_reads' HO167.out).2.2 | (with_reducible refine Kd.C_alloc ?_ _) | (with_reducible refine Kd.C_drewN ?_ _) | (with_reducible refine Kd.C_drew ?_))); (case side4 => exact (Kd.R_reads' HO167.out).2.1); rintro e w44 ⟨rfl, hb⟩; refine ⟨_, rfl, ?_⟩; have n0_ := Aside0.mk (Kd.R_below (by (with_reducible repeat (first | apply Kd.R_alloc | apply Kd.R_drewN | apply Kd.R_drew)); exact HO167.out) hb); have n1_ := Aside0.mk (Kd.R_below (by (with_reducible repeat (first | apply Kd.R_alloc | apply Kd.R_drewN | apply Kd.R_drew)); exact HO173.out) hb); have n2_ := Aside0.mk (below_step (by repeat (first | (with_reducible first | exact HB.out | apply below_alloc | apply pw_below_drewN | apply below_drew1) | exact HB.out)) hb); clear HO167; clear HO173; clear HB; have HO167 := n0_; have HO173 := n1_; have HB := n2_; clear n0_ n1_ n2_; (try clear hb); (try clear hb2); (try clear hk); (try clear hi)))
                      go_ret3
                      exact ⟨by first | rfl | (simp [errW_none, errW_some] <;> rfl) | (simp only [← hji7]; first | rfl | (simp [errW_none, errW_some] <;> rfl)) | (simp [*, errW_none, errW_some] <;> rfl), by repeat (first | (with_reducible first | exact HB.out | apply below_alloc | apply pw_below_drewN | apply below_drew1) | exact HB.out)⟩
                  · rw [if_neg c11] at H
                    exact absurd H (by simp)
                · rw [if_neg c10] at H
                  exact absurd H (by simp)
              · rw [if_neg c9] at H
                exact absurd H (by simp)
            · rw [if_neg c8] at H
              exact absurd H (by simp)
          · rw [if_neg c6] at H
            exact absurd H (by simp)
        · rw [if_neg c5] at H
          exact absurd H (by simp)
      · rw [if_neg c4] at H
        have c4b0 : decide (x9_1 < (l1.length : Int)) = false := decide_eq_false c4
        clear c4
        simp only [Option.some.injEq, Prod.mk.injEq] at H
        obtain ⟨rfl, rfl, rfl⟩ := H
        go_wp2
        go_ret3
        exact ⟨by first | rfl | (simp [errW_none, errW_some] <;> rfl) | (simp [*, errW_none, errW_some] <;> rfl), by repeat (first | (with_reducible first | exact HB.out | apply below_alloc | apply pw_below_drewN | apply below_drew1) | exact HB.out)⟩

/-! ### laws_FnMerge: function 10 -/
def laws_FnMerge.j0 : Nat → Int → List Int → List Bool → Bool → Option (Bool)
  | 0, _, _, _, _ => none
  | k + 1, x0, x1, x2, x19 => if x19 = true then (some true) else ((laws_effects.f k x1 x2).bind fun t161 => (if t161 = true then ((laws_expression.f x0).bind fun t163 => ((spec_Verdict.f k t163 x1 x2).bind fun bt164 => ((laws_expression.f x0).bind fun t166 => ((laws_merged.f k t166 x1 x2).bind fun bt167 => (if bt167.2.2 = true then (if ((bt167.1 == 0) == bt164.1) = true then ((laws_awakeMerge.f k).bind fun t170 => (some t170)) else (some false)) else (some false)))))) else ((laws_awakeMerge.f k).bind fun t162 => (some t162))))
def laws_FnMerge.f (k : Nat) (a0 : Int) (l1 : List Int) (l2 : List Bool) : Option (Bool) := if (l1.length : Int) > 2147483647 then (laws_FnMerge.j0 k a0 l1 l2 true) else (laws_FnMerge.j0 k a0 l1 l2 (decide ((l2.length : Int) > 2147483647)))
theorem laws_FnMerge.mono_l : ∀ k, (∀ y0 y1 y2 y3, LeO (laws_FnMerge.j0 k y0 y1 y2 y3) (laws_FnMerge.j0 (k + 1) y0 y1 y2 y3))
  | 0 => fun _ _ _ _ r h => by simp [laws_FnMerge.j0] at h
  | k + 1 => by
    have ih0 := laws_FnMerge.mono_l k
    · intro y0 y1 y2 y3
      unfold laws_FnMerge.j0
      repeat' first
      | (with_reducible exact ih0 _ _ _ _)
      | (with_reducible exact laws_awakeMerge.mono _)
      | (with_reducible exact laws_effects.mono _ _ _)
      | (with_reducible exact laws_merged.mono _ _ _ _)
      | (with_reducible exact spec_Verdict.mono _ _ _ _)
      | (with_reducible exact LeO.refl _)
      | (with_reducible exact LeO.none _)
      | (with_reducible refine LeO.ite ?_ ?_)
      | (with_reducible refine LeO.bind ?_ (fun _ => ?_))
      | exact ih0 _ _ _ _
      | exact laws_awakeMerge.mono _
      | exact laws_effects.mono _ _ _
      | exact laws_merged.mono _ _ _ _
      | exact spec_Verdict.mono _ _ _ _
      | exact LeO.none _
      | refine LeO.ite ?_ ?_
      | refine LeO.bind ?_ (fun _ => ?_)
theorem laws_FnMerge.mono : ∀ a0 a1 a2 k, LeO (laws_FnMerge.f k a0 a1 a2) (laws_FnMerge.f (k + 1) a0 a1 a2) := by
  intro a0 a1 a2 k
  have ih0 := laws_FnMerge.mono_l k
  unfold laws_FnMerge.f
  repeat' first
      | (with_reducible exact ih0 _ _ _ _)
      | (with_reducible exact laws_awakeMerge.mono _)
      | (with_reducible exact laws_effects.mono _ _ _)
      | (with_reducible exact laws_merged.mono _ _ _ _)
      | (with_reducible exact spec_Verdict.mono _ _ _ _)
      | (with_reducible exact LeO.refl _)
      | (with_reducible exact LeO.none _)
      | (with_reducible refine LeO.ite ?_ ?_)
      | (with_reducible refine LeO.bind ?_ (fun _ => ?_))
      | exact ih0 _ _ _ _
      | exact laws_awakeMerge.mono _
      | exact laws_effects.mono _ _ _
      | exact laws_merged.mono _ _ _ _
      | exact spec_Verdict.mono _ _ _ _
      | exact LeO.none _
      | refine LeO.ite ?_ ?_
      | refine LeO.bind ?_ (fun _ => ?_)
set_option maxHeartbeats 8000000 in
set_option maxRecDepth 100000 in
theorem laws_FnMerge.calls (k : Nat) (a0 : Int) (A1 : Option Addr) (c1 : Nat) (l1 : List Int) (A2 : Option Addr) (c2 : Nat) (l2 : List Bool) (r : Bool) (w : World) (hr1 : Kd.C (Kd.int .i64) w A1 l1.length l1) (hc1 : l1.length ≤ c1) (hr2 : Kd.C Kd.bool w A2 l2.length l2) (hc2 : l2.length ≤ c2) (h : laws_FnMerge.f k a0 l1 l2 = some r) :
    Calls Try.prog 10 #[.int .i64 a0, .slice A1 l1.length c1, .slice A2 l2.length c2] w fun e w' => e = .returned (.bool r) ∧ Below w.heap.size w w' := by
  have HR1 := Aside0.mk hr1
  have HC1 := Aside0.mk hc1
  clear hr1 hc1
  have HR2 := Aside0.mk hr2
  have HC2 := Aside0.mk hc2
  clear hr2 hc2
  have HB := Aside0.mk (Below.refl w.heap.size w)
  have H : (if (l1.length : Int) > 2147483647 then (laws_FnMerge.j0 k a0 l1 l2 true) else (laws_FnMerge.j0 k a0 l1 l2 (decide ((l2.length : Int) > 2147483647)))) = some r := h
  clear h
  have HC4 := Aside0.mk H
  clear H
  go_enter Try.func10, Try.ntmps10
  go_upto_region 1 with (fail)
  go_cut [19] (fun v19 wc => ∃ (kq : Nat) (x19_3 : Bool), v19 = .bool x19_3 ∧ Aside0 (laws_FnMerge.j0 kq a0 l1 l2 x19_3 = some r) ∧ Aside0 (kq ≤ k) ∧ Aside0 (Below w.heap.size w wc))
  case first =>
    have H := HC4.out
    clear HC4
    by_cases c5 : (l1.length : Int) > 2147483647
    · rw [if_pos c5] at H
      have c5b0 : decide (2147483647 < (l1.length : Int)) = true := decide_eq_true c5
      have c5b1 : decide (2147483647 < l1.length) = true := decide_eq_true (by omega)
      clear c5
      (first | rw [c5b0] | (simp only [i64_w, i32_w]; rw [c5b0]) | skip)
      have H' := Aside0.mk H
      clear H
      go_wp2
      go_meet
      case rel => exact ⟨_, (true), (by first | rfl | (simp; done) | (simp [*]; done)), H', ⟨by first | omega | exact Nat.le_refl _⟩, ⟨by repeat (first | (with_reducible first | exact HB.out | apply below_alloc | apply pw_below_drewN | apply below_drew1) | exact HB.out)⟩⟩
    · rw [if_neg c5] at H
      have c5b0 : decide (2147483647 < (l1.length : Int)) = false := decide_eq_false c5
      have c5b1 : decide (2147483647 < l1.length) = false := decide_eq_false (by omega)
      clear c5
      (first | rw [c5b0] | (simp only [i64_w, i32_w]; rw [c5b0]) | skip)
      have H' := Aside0.mk H
      clear H
      go_wp2
      go_meet
      case rel => exact ⟨_, (decide ((l2.length : Int) > 2147483647)), (by first | rfl | (simp; done) | (simp [*]; done)), H', ⟨by first | omega | exact Nat.le_refl _⟩, ⟨by repeat (first | (with_reducible first | exact HB.out | apply below_alloc | apply pw_below_drewN | apply below_drew1) | exact HB.out)⟩⟩
  case rest =>
    clear HC4
    try clear c1
    try clear c2
    try clear p2
    try clear c5
    try clear c5b0
    try clear c5b1
    obtain ⟨kq, x19_3, rfl, HA, HJ3, HB⟩ := hcut
    cases kq with
    | zero => exact absurd HA.out (by simp [laws_FnMerge.j0])
    | succ kj3 =>
      have H := HA.out
      clear HA
      simp only [laws_FnMerge.j0] at H
      by_cases c6 : x19_3 = true
      · subst c6
        have H1 : (some true) = some r := by rw [if_pos rfl] at H; exact H
        clear H
        have H := H1
        clear H1
        obtain rfl := Option.some.inj H
        go_wp2
        go_ret
        exact ⟨by first | rfl | (simp [errW_none, errW_some] <;> rfl) | (simp [*, errW_none, errW_some] <;> rfl), by repeat (first | (with_reducible first | exact HB.out | apply below_alloc | apply pw_below_drewN | apply below_drew1) | exact HB.out)⟩
      · replace c6 := Bool.eq_false_iff.mpr c6
        subst c6
        have H1 : ((laws_effects.f kj3 l1 l2).bind fun t161 => (if t161 = true then ((laws_expression.f a0).bind fun t163 => ((spec_Verdict.f kj3 t163 l1 l2).bind fun bt164 => ((laws_expression.f a0).bind fun t166 => ((laws_merged.f kj3 t166 l1 l2).bind fun bt167 => (if bt167.2.2 = true then (if ((bt167.1 == 0) == bt164.1) = true then ((laws_awakeMerge.f kj3).bind fun t170 => (some t170)) else (some false)) else (some false)))))) else ((laws_awakeMerge.f kj3).bind fun t162 => (some t162)))) = some r := by rw [if_neg (show ¬ (false = true) by decide)] at H; exact H
        clear H
        have H := H1
        clear H1
        replace H := Option.bind_eq_some_iff.mp H
        obtain ⟨t161, A70, H⟩ := H
        replace H : (if t161 = true then ((laws_expression.f a0).bind fun t163 => ((spec_Verdict.f kj3 t163 l1 l2).bind fun bt164 => ((laws_expression.f a0).bind fun t166 => ((laws_merged.f kj3 t166 l1 l2).bind fun bt167 => (if bt167.2.2 = true then (if ((bt167.1 == 0) == bt164.1) = true then ((laws_awakeMerge.f kj3).bind fun t170 => (some t170)) else (some false)) else (some false)))))) else ((laws_awakeMerge.f kj3).bind fun t162 => (some t162))) = some r := H
        have A7 := Aside0.mk A70
        clear A70
        by_cases c8 : t161 = true
        · subst c8
          have H1 : ((laws_expression.f a0).bind fun t163 => ((spec_Verdict.f kj3 t163 l1 l2).bind fun bt164 => ((laws_expression.f a0).bind fun t166 => ((laws_merged.f kj3 t166 l1 l2).bind fun bt167 => (if bt167.2.2 = true then (if ((bt167.1 == 0) == bt164.1) = true then ((laws_awakeMerge.f kj3).bind fun t170 => (some t170)) else (some false)) else (some false)))))) = some r := by rw [if_pos rfl] at H; exact H
          clear H
          have H := H1
          clear H1
          replace H := Option.bind_eq_some_iff.mp H
          obtain ⟨t163, A90, H⟩ := H
          replace H : ((spec_Verdict.f kj3 t163 l1 l2).bind fun bt164 => ((laws_expression.f a0).bind fun t166 => ((laws_merged.f kj3 t166 l1 l2).bind fun bt167 => (if bt167.2.2 = true then (if ((bt167.1 == 0) == bt164.1) = true then ((laws_awakeMerge.f kj3).bind fun t170 => (some t170)) else (some false)) else (some false))))) = some r := H
          have A9 := Aside0.mk A90
          clear A90
          replace H := Option.bind_eq_some_iff.mp H
          obtain ⟨⟨t164, t165⟩, A100, H⟩ := H
          replace H : ((laws_expression.f a0).bind fun t166 => ((laws_merged.f kj3 t166 l1 l2).bind fun bt167 => (if bt167.2.2 = true then (if ((bt167.1 == 0) == t164) = true then ((laws_awakeMerge.f kj3).bind fun t170 => (some t170)) else (some false)) else (some false)))) = some r := H
          have A10 := Aside0.mk A100
          clear A100
          replace H := Option.bind_eq_some_iff.mp H
          obtain ⟨t166, A110, H⟩ := H
          replace H : ((laws_merged.f kj3 t166 l1 l2).bind fun bt167 => (if bt167.2.2 = true then (if ((bt167.1 == 0) == t164) = true then ((laws_awakeMerge.f kj3).bind fun t170 => (some t170)) else (some false)) else (some false))) = some r := H
          have A11 := Aside0.mk A110
          clear A110
          replace H := Option.bind_eq_some_iff.mp H
          obtain ⟨⟨t167, t168, t169⟩, A120, H⟩ := H
          replace H : (if t169 = true then (if ((t167 == 0) == t164) = true then ((laws_awakeMerge.f kj3).bind fun t170 => (some t170)) else (some false)) else (some false)) = some r := H
          have A12 := Aside0.mk A120
          clear A120
          by_cases c13 : t169 = true
          · subst c13
            have H1 : (if ((t167 == 0) == t164) = true then ((laws_awakeMerge.f kj3).bind fun t170 => (some t170)) else (some false)) = some r := by rw [if_pos rfl] at H; exact H
            clear H
            have H := H1
            clear H1
            by_cases c14 : ((t167 == 0) == t164) = true
            · rw [if_pos c14] at H
              have c14b0 : ((t167 == 0) == t164) = true := c14
              (try (have c14b1 : decide ((t167 == 0) = t164) = true := by simpa using c14))
              (try (have c14b2 : ((t167 == 0) == t164) = true := by simpa using c14))
              clear c14
              replace H := Option.bind_eq_some_iff.mp H
              obtain ⟨t170, A150, H⟩ := H
              replace H : (some t170) = some r := H
              have A15 := Aside0.mk A150
              clear A150
              obtain rfl := Option.some.inj H
              go_wp2_with (first | ((with_reducible refine gate_callee (f := 28) rfl ?_); refine goesL_ (some 22) rfl rfl Try.func28 (by kernel_rfl) rfl #[.slice A1 l1.length c1, .slice A2 l2.length c2] rfl (by (try simp only [List.map_toArray, List.map_cons, List.map_nil]); first | done | rfl | (simp only [List.length_drop, List.length_take]; rfl)) ?_; (with_reducible refine (laws_effects.calls kj3 _ _ l1 _ _ l2 true _ ?side1 ?side2 ?side3 ?side4 A7.out).mono ?_); (case side1 => repeat (first | exact (Kd.C_below HR1.out HB.out) | (with_reducible refine Kd.C_alloc ?_ _) | (with_reducible refine Kd.C_drewN ?_ _) | (with_reducible refine Kd.C_drew ?_))); (case side2 => exact HC1.out); (case side3 => repeat (first | exact (Kd.C_below HR2.out HB.out) | (with_reducible refine Kd.C_alloc ?_ _) | (with_reducible refine Kd.C_drewN ?_ _) | (with_reducible refine Kd.C_drew ?_))); (case side4 => exact HC2.out); rintro e w' ⟨rfl, ⟨nd, rfl⟩⟩; refine ⟨_, rfl, ?_⟩) | ((with_reducible refine gate_callee (f := 31) rfl ?_); refine goesL_ (some 27) rfl rfl Try.func31 (by kernel_rfl) rfl #[.int .i64 a0] rfl (by (try simp only [List.map_toArray, List.map_cons, List.map_nil]); first | done | rfl | (simp only [List.length_drop, List.length_take]; rfl)) ?_; (with_reducible refine (laws_expression.calls a0 t163 _ A9.out).mono ?_); rintro e w16 ⟨rfl, hb⟩; refine ⟨_, rfl, ?_⟩; have n0_ := Aside0.mk (below_step (by repeat (first | (with_reducible first | exact HB.out | apply below_alloc | apply pw_below_drewN | apply below_drew1) | exact HB.out)) hb); clear HB; have HB := n0_; clear n0_; (try clear hb); (try clear hb2); (try clear hk); (try clear hi)) | ((with_reducible refine gate_callee (f := 30) rfl ?_); refine goesL_ (some 30) rfl rfl Try.func30 (by kernel_rfl) rfl #[.string t163, .slice A1 l1.length c1, .slice A2 l2.length c2] rfl (by (try simp only [List.map_toArray, List.map_cons, List.map_nil]); first | done | rfl | (simp only [List.length_drop, List.length_take]; rfl)) ?_; (with_reducible refine (spec_Verdict.calls kj3 t163 _ _ l1 _ _ l2 t164 t165 _ ?side1 ?side2 ?side3 ?side4 A10.out).mono ?_); (case side1 => repeat (first | exact (Kd.C_below HR1.out HB.out) | (with_reducible refine Kd.C_alloc ?_ _) | (with_reducible refine Kd.C_drewN ?_ _) | (with_reducible refine Kd.C_drew ?_))); (case side2 => exact HC1.out); (case side3 => repeat (first | exact (Kd.C_below HR2.out HB.out) | (with_reducible refine Kd.C_alloc ?_ _) | (with_reducible refine Kd.C_drewN ?_ _) | (with_reducible refine Kd.C_drew ?_))); (case side4 => exact HC2.out); rintro e w' ⟨rfl, ⟨nd, rfl⟩⟩; refine ⟨_, rfl, ?_⟩) | ((with_reducible refine gate_callee (f := 31) rfl ?_); refine goesL_ (some 35) rfl rfl Try.func31 (by kernel_rfl) rfl #[.int .i64 a0] rfl (by (try simp only [List.map_toArray, List.map_cons, List.map_nil]); first | done | rfl | (simp only [List.length_drop, List.length_take]; rfl)) ?_; (with_reducible refine (laws_expression.calls a0 t166 _ A11.out).mono ?_); rintro e w17 ⟨rfl, hb⟩; refine ⟨_, rfl, ?_⟩; have n0_ := Aside0.mk (below_step (by repeat (first | (with_reducible first | exact HB.out | apply below_alloc | apply pw_below_drewN | apply below_drew1) | exact HB.out)) hb); clear HB; have HB := n0_; clear n0_; (try clear hb); (try clear hb2); (try clear hk); (try clear hi)) | ((with_reducible refine gate_callee (f := 32) rfl ?_); refine goesL_ (some 38) rfl rfl Try.func32 (by kernel_rfl) rfl #[.string t166, .slice A1 l1.length c1, .slice A2 l2.length c2] rfl (by (try simp only [List.map_toArray, List.map_cons, List.map_nil]); first | done | rfl | (simp only [List.length_drop, List.length_take]; rfl)) ?_; (with_reducible refine (laws_merged.calls kj3 t166 _ _ l1 _ _ l2 t167 t168 true _ ?side1 ?side2 ?side3 ?side4 A12.out).mono ?_); (case side1 => repeat (first | exact (Kd.C_below HR1.out HB.out) | (with_reducible refine Kd.C_alloc ?_ _) | (with_reducible refine Kd.C_drewN ?_ _) | (with_reducible refine Kd.C_drew ?_))); (case side2 => exact HC1.out); (case side3 => repeat (first | exact (Kd.C_below HR2.out HB.out) | (with_reducible refine Kd.C_alloc ?_ _) | (with_reducible refine Kd.C_drewN ?_ _) | (with_reducible refine Kd.C_drew ?_))); (case side4 => exact HC2.out); rintro e w18 ⟨rfl, hb⟩; refine ⟨_, rfl, ?_⟩; have n0_ := Aside0.mk (below_step (by repeat (first | (with_reducible first | exact HB.out | apply below_alloc | apply pw_below_drewN | apply below_drew1) | exact HB.out)) hb); clear HB; have HB := n0_; clear n0_; (try clear hb); (try clear hb2); (try clear hk); (try clear hi)) | (go_at_call 29; (with_reducible refine (laws_awakeMerge.calls kj3  t170 _ A15.out).mono ?_); rintro e w19 ⟨rfl, hb⟩; have n0_ := Aside0.mk (below_step (by repeat (first | (with_reducible first | exact HB.out | apply below_alloc | apply pw_below_drewN | apply below_drew1) | exact HB.out)) hb); clear HB; have HB := n0_; clear n0_; (try clear hb); (try clear hb2); (try clear hk); (try clear hi)))
              go_ret
              exact ⟨by first | rfl | (simp [errW_none, errW_some] <;> rfl) | (simp [*, errW_none, errW_some] <;> rfl), by repeat (first | (with_reducible first | exact HB.out | apply below_alloc | apply pw_below_drewN | apply below_drew1) | exact HB.out)⟩
            · rw [if_neg c14] at H
              have c14b0 : ((t167 == 0) == t164) = false := by simpa using c14
              (try (have c14b1 : decide ((t167 == 0) = t164) = false := by simpa using c14))
              (try (have c14b2 : ((t167 == 0) == t164) = false := by simpa using c14))
              (try (have c14b3 : ¬ ((t167 == 0) = t164) := by simpa using c14))
              clear c14
              obtain rfl := Option.some.inj H
              go_wp2_with (first | ((with_reducible refine gate_callee (f := 28) rfl ?_); refine goesL_ (some 22) rfl rfl Try.func28 (by kernel_rfl) rfl #[.slice A1 l1.length c1, .slice A2 l2.length c2] rfl (by (try simp only [List.map_toArray, List.map_cons, List.map_nil]); first | done | rfl | (simp only [List.length_drop, List.length_take]; rfl)) ?_; (with_reducible refine (laws_effects.calls kj3 _ _ l1 _ _ l2 true _ ?side1 ?side2 ?side3 ?side4 A7.out).mono ?_); (case side1 => repeat (first | exact (Kd.C_below HR1.out HB.out) | (with_reducible refine Kd.C_alloc ?_ _) | (with_reducible refine Kd.C_drewN ?_ _) | (with_reducible refine Kd.C_drew ?_))); (case side2 => exact HC1.out); (case side3 => repeat (first | exact (Kd.C_below HR2.out HB.out) | (with_reducible refine Kd.C_alloc ?_ _) | (with_reducible refine Kd.C_drewN ?_ _) | (with_reducible refine Kd.C_drew ?_))); (case side4 => exact HC2.out); rintro e w' ⟨rfl, ⟨nd, rfl⟩⟩; refine ⟨_, rfl, ?_⟩) | ((with_reducible refine gate_callee (f := 31) rfl ?_); refine goesL_ (some 27) rfl rfl Try.func31 (by kernel_rfl) rfl #[.int .i64 a0] rfl (by (try simp only [List.map_toArray, List.map_cons, List.map_nil]); first | done | rfl | (simp only [List.length_drop, List.length_take]; rfl)) ?_; (with_reducible refine (laws_expression.calls a0 t163 _ A9.out).mono ?_); rintro e w20 ⟨rfl, hb⟩; refine ⟨_, rfl, ?_⟩; have n0_ := Aside0.mk (below_step (by repeat (first | (with_reducible first | exact HB.out | apply below_alloc | apply pw_below_drewN | apply below_drew1) | exact HB.out)) hb); clear HB; have HB := n0_; clear n0_; (try clear hb); (try clear hb2); (try clear hk); (try clear hi)) | ((with_reducible refine gate_callee (f := 30) rfl ?_); refine goesL_ (some 30) rfl rfl Try.func30 (by kernel_rfl) rfl #[.string t163, .slice A1 l1.length c1, .slice A2 l2.length c2] rfl (by (try simp only [List.map_toArray, List.map_cons, List.map_nil]); first | done | rfl | (simp only [List.length_drop, List.length_take]; rfl)) ?_; (with_reducible refine (spec_Verdict.calls kj3 t163 _ _ l1 _ _ l2 t164 t165 _ ?side1 ?side2 ?side3 ?side4 A10.out).mono ?_); (case side1 => repeat (first | exact (Kd.C_below HR1.out HB.out) | (with_reducible refine Kd.C_alloc ?_ _) | (with_reducible refine Kd.C_drewN ?_ _) | (with_reducible refine Kd.C_drew ?_))); (case side2 => exact HC1.out); (case side3 => repeat (first | exact (Kd.C_below HR2.out HB.out) | (with_reducible refine Kd.C_alloc ?_ _) | (with_reducible refine Kd.C_drewN ?_ _) | (with_reducible refine Kd.C_drew ?_))); (case side4 => exact HC2.out); rintro e w' ⟨rfl, ⟨nd, rfl⟩⟩; refine ⟨_, rfl, ?_⟩) | ((with_reducible refine gate_callee (f := 31) rfl ?_); refine goesL_ (some 35) rfl rfl Try.func31 (by kernel_rfl) rfl #[.int .i64 a0] rfl (by (try simp only [List.map_toArray, List.map_cons, List.map_nil]); first | done | rfl | (simp only [List.length_drop, List.length_take]; rfl)) ?_; (with_reducible refine (laws_expression.calls a0 t166 _ A11.out).mono ?_); rintro e w21 ⟨rfl, hb⟩; refine ⟨_, rfl, ?_⟩; have n0_ := Aside0.mk (below_step (by repeat (first | (with_reducible first | exact HB.out | apply below_alloc | apply pw_below_drewN | apply below_drew1) | exact HB.out)) hb); clear HB; have HB := n0_; clear n0_; (try clear hb); (try clear hb2); (try clear hk); (try clear hi)) | ((with_reducible refine gate_callee (f := 32) rfl ?_); refine goesL_ (some 38) rfl rfl Try.func32 (by kernel_rfl) rfl #[.string t166, .slice A1 l1.length c1, .slice A2 l2.length c2] rfl (by (try simp only [List.map_toArray, List.map_cons, List.map_nil]); first | done | rfl | (simp only [List.length_drop, List.length_take]; rfl)) ?_; (with_reducible refine (laws_merged.calls kj3 t166 _ _ l1 _ _ l2 t167 t168 true _ ?side1 ?side2 ?side3 ?side4 A12.out).mono ?_); (case side1 => repeat (first | exact (Kd.C_below HR1.out HB.out) | (with_reducible refine Kd.C_alloc ?_ _) | (with_reducible refine Kd.C_drewN ?_ _) | (with_reducible refine Kd.C_drew ?_))); (case side2 => exact HC1.out); (case side3 => repeat (first | exact (Kd.C_below HR2.out HB.out) | (with_reducible refine Kd.C_alloc ?_ _) | (with_reducible refine Kd.C_drewN ?_ _) | (with_reducible refine Kd.C_drew ?_))); (case side4 => exact HC2.out); rintro e w22 ⟨rfl, hb⟩; refine ⟨_, rfl, ?_⟩; have n0_ := Aside0.mk (below_step (by repeat (first | (with_reducible first | exact HB.out | apply below_alloc | apply pw_below_drewN | apply below_drew1) | exact HB.out)) hb); clear HB; have HB := n0_; clear n0_; (try clear hb); (try clear hb2); (try clear hk); (try clear hi)))
              go_ret
              exact ⟨by first | rfl | (simp [errW_none, errW_some] <;> rfl) | (simp [*, errW_none, errW_some] <;> rfl), by repeat (first | (with_reducible first | exact HB.out | apply below_alloc | apply pw_below_drewN | apply below_drew1) | exact HB.out)⟩
          · replace c13 := Bool.eq_false_iff.mpr c13
            subst c13
            have H1 : (some false) = some r := by rw [if_neg (show ¬ (false = true) by decide)] at H; exact H
            clear H
            have H := H1
            clear H1
            obtain rfl := Option.some.inj H
            go_wp2_with (first | ((with_reducible refine gate_callee (f := 28) rfl ?_); refine goesL_ (some 22) rfl rfl Try.func28 (by kernel_rfl) rfl #[.slice A1 l1.length c1, .slice A2 l2.length c2] rfl (by (try simp only [List.map_toArray, List.map_cons, List.map_nil]); first | done | rfl | (simp only [List.length_drop, List.length_take]; rfl)) ?_; (with_reducible refine (laws_effects.calls kj3 _ _ l1 _ _ l2 true _ ?side1 ?side2 ?side3 ?side4 A7.out).mono ?_); (case side1 => repeat (first | exact (Kd.C_below HR1.out HB.out) | (with_reducible refine Kd.C_alloc ?_ _) | (with_reducible refine Kd.C_drewN ?_ _) | (with_reducible refine Kd.C_drew ?_))); (case side2 => exact HC1.out); (case side3 => repeat (first | exact (Kd.C_below HR2.out HB.out) | (with_reducible refine Kd.C_alloc ?_ _) | (with_reducible refine Kd.C_drewN ?_ _) | (with_reducible refine Kd.C_drew ?_))); (case side4 => exact HC2.out); rintro e w' ⟨rfl, ⟨nd, rfl⟩⟩; refine ⟨_, rfl, ?_⟩) | ((with_reducible refine gate_callee (f := 31) rfl ?_); refine goesL_ (some 27) rfl rfl Try.func31 (by kernel_rfl) rfl #[.int .i64 a0] rfl (by (try simp only [List.map_toArray, List.map_cons, List.map_nil]); first | done | rfl | (simp only [List.length_drop, List.length_take]; rfl)) ?_; (with_reducible refine (laws_expression.calls a0 t163 _ A9.out).mono ?_); rintro e w23 ⟨rfl, hb⟩; refine ⟨_, rfl, ?_⟩; have n0_ := Aside0.mk (below_step (by repeat (first | (with_reducible first | exact HB.out | apply below_alloc | apply pw_below_drewN | apply below_drew1) | exact HB.out)) hb); clear HB; have HB := n0_; clear n0_; (try clear hb); (try clear hb2); (try clear hk); (try clear hi)) | ((with_reducible refine gate_callee (f := 30) rfl ?_); refine goesL_ (some 30) rfl rfl Try.func30 (by kernel_rfl) rfl #[.string t163, .slice A1 l1.length c1, .slice A2 l2.length c2] rfl (by (try simp only [List.map_toArray, List.map_cons, List.map_nil]); first | done | rfl | (simp only [List.length_drop, List.length_take]; rfl)) ?_; (with_reducible refine (spec_Verdict.calls kj3 t163 _ _ l1 _ _ l2 t164 t165 _ ?side1 ?side2 ?side3 ?side4 A10.out).mono ?_); (case side1 => repeat (first | exact (Kd.C_below HR1.out HB.out) | (with_reducible refine Kd.C_alloc ?_ _) | (with_reducible refine Kd.C_drewN ?_ _) | (with_reducible refine Kd.C_drew ?_))); (case side2 => exact HC1.out); (case side3 => repeat (first | exact (Kd.C_below HR2.out HB.out) | (with_reducible refine Kd.C_alloc ?_ _) | (with_reducible refine Kd.C_drewN ?_ _) | (with_reducible refine Kd.C_drew ?_))); (case side4 => exact HC2.out); rintro e w' ⟨rfl, ⟨nd, rfl⟩⟩; refine ⟨_, rfl, ?_⟩) | ((with_reducible refine gate_callee (f := 31) rfl ?_); refine goesL_ (some 35) rfl rfl Try.func31 (by kernel_rfl) rfl #[.int .i64 a0] rfl (by (try simp only [List.map_toArray, List.map_cons, List.map_nil]); first | done | rfl | (simp only [List.length_drop, List.length_take]; rfl)) ?_; (with_reducible refine (laws_expression.calls a0 t166 _ A11.out).mono ?_); rintro e w24 ⟨rfl, hb⟩; refine ⟨_, rfl, ?_⟩; have n0_ := Aside0.mk (below_step (by repeat (first | (with_reducible first | exact HB.out | apply below_alloc | apply pw_below_drewN | apply below_drew1) | exact HB.out)) hb); clear HB; have HB := n0_; clear n0_; (try clear hb); (try clear hb2); (try clear hk); (try clear hi)) | ((with_reducible refine gate_callee (f := 32) rfl ?_); refine goesL_ (some 38) rfl rfl Try.func32 (by kernel_rfl) rfl #[.string t166, .slice A1 l1.length c1, .slice A2 l2.length c2] rfl (by (try simp only [List.map_toArray, List.map_cons, List.map_nil]); first | done | rfl | (simp only [List.length_drop, List.length_take]; rfl)) ?_; (with_reducible refine (laws_merged.calls kj3 t166 _ _ l1 _ _ l2 t167 t168 false _ ?side1 ?side2 ?side3 ?side4 A12.out).mono ?_); (case side1 => repeat (first | exact (Kd.C_below HR1.out HB.out) | (with_reducible refine Kd.C_alloc ?_ _) | (with_reducible refine Kd.C_drewN ?_ _) | (with_reducible refine Kd.C_drew ?_))); (case side2 => exact HC1.out); (case side3 => repeat (first | exact (Kd.C_below HR2.out HB.out) | (with_reducible refine Kd.C_alloc ?_ _) | (with_reducible refine Kd.C_drewN ?_ _) | (with_reducible refine Kd.C_drew ?_))); (case side4 => exact HC2.out); rintro e w25 ⟨rfl, hb⟩; refine ⟨_, rfl, ?_⟩; have n0_ := Aside0.mk (below_step (by repeat (first | (with_reducible first | exact HB.out | apply below_alloc | apply pw_below_drewN | apply below_drew1) | exact HB.out)) hb); clear HB; have HB := n0_; clear n0_; (try clear hb); (try clear hb2); (try clear hk); (try clear hi)))
            go_ret
            exact ⟨by first | rfl | (simp [errW_none, errW_some] <;> rfl) | (simp [*, errW_none, errW_some] <;> rfl), by repeat (first | (with_reducible first | exact HB.out | apply below_alloc | apply pw_below_drewN | apply below_drew1) | exact HB.out)⟩
        · replace c8 := Bool.eq_false_iff.mpr c8
          subst c8
          have H1 : ((laws_awakeMerge.f kj3).bind fun t162 => (some t162)) = some r := by rw [if_neg (show ¬ (false = true) by decide)] at H; exact H
          clear H
          have H := H1
          clear H1
          replace H := Option.bind_eq_some_iff.mp H
          obtain ⟨t162, A260, H⟩ := H
          replace H : (some t162) = some r := H
          have A26 := Aside0.mk A260
          clear A260
          obtain rfl := Option.some.inj H
          go_wp2_with (first | ((with_reducible refine gate_callee (f := 28) rfl ?_); refine goesL_ (some 22) rfl rfl Try.func28 (by kernel_rfl) rfl #[.slice A1 l1.length c1, .slice A2 l2.length c2] rfl (by (try simp only [List.map_toArray, List.map_cons, List.map_nil]); first | done | rfl | (simp only [List.length_drop, List.length_take]; rfl)) ?_; (with_reducible refine (laws_effects.calls kj3 _ _ l1 _ _ l2 false _ ?side1 ?side2 ?side3 ?side4 A7.out).mono ?_); (case side1 => repeat (first | exact (Kd.C_below HR1.out HB.out) | (with_reducible refine Kd.C_alloc ?_ _) | (with_reducible refine Kd.C_drewN ?_ _) | (with_reducible refine Kd.C_drew ?_))); (case side2 => exact HC1.out); (case side3 => repeat (first | exact (Kd.C_below HR2.out HB.out) | (with_reducible refine Kd.C_alloc ?_ _) | (with_reducible refine Kd.C_drewN ?_ _) | (with_reducible refine Kd.C_drew ?_))); (case side4 => exact HC2.out); rintro e w' ⟨rfl, ⟨nd, rfl⟩⟩; refine ⟨_, rfl, ?_⟩) | ((with_reducible refine gate_callee (f := 29) rfl ?_); refine goesL_ (some 24) rfl rfl Try.func29 (by kernel_rfl) rfl #[] rfl (by (try simp only [List.map_toArray, List.map_cons, List.map_nil]); first | done | rfl | (simp only [List.length_drop, List.length_take]; rfl)) ?_; (with_reducible refine (laws_awakeMerge.calls kj3  t162 _ A26.out).mono ?_); rintro e w27 ⟨rfl, hb⟩; refine ⟨_, rfl, ?_⟩; have n0_ := Aside0.mk (below_step (by repeat (first | (with_reducible first | exact HB.out | apply below_alloc | apply pw_below_drewN | apply below_drew1) | exact HB.out)) hb); clear HB; have HB := n0_; clear n0_; (try clear hb); (try clear hb2); (try clear hk); (try clear hi)))
          go_ret
          exact ⟨by first | rfl | (simp [errW_none, errW_some] <;> rfl) | (simp [*, errW_none, errW_some] <;> rfl), by repeat (first | (with_reducible first | exact HB.out | apply below_alloc | apply pw_below_drewN | apply below_drew1) | exact HB.out)⟩

end Go.Proofs.Ytdhmlcnlklcofaa.PFnMerge
