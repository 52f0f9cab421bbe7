/- The machine side of laws.FnModelDefs: each function of this text answers what its Lean function answers (written for this claim by a program of this session over the kit's print; no condition beyond what each theorem says). -/
import Derived.Test.YtjglpjlbnmpdfaaGreatDoorOFnModelDefsx0
import Derived.Test.YtjglpjlbnmpdfaaGreatDoorOFnModelDefsx1
import Derived.Test.YtjglpjlbnmpdfaaGreatDoorOFnModelDefsx3
namespace Go.Proofs.YtjglpjlbnmpdfaaGreatDoor.PFnModelDefs
open Go.RowKit Go.Proofs.YtjglpjlbnmpdfaaGreatDoorW.PrintWords Go.Proofs.YtjglpjlbnmpdfaaGreatDoorW.PrintLast Go.Proofs.YtjglpjlbnmpdfaaGreatDoorW.PrintMore
attribute [local go_sem] max2_int min2_int max_two min_two max_three min_three max_four min_four   -- for this text's walks alone
set_option linter.unusedVariables false
set_option linter.unusedSimpArgs false

attribute [local go_sem high] eqA28
/-! ### spec_ModelConf: function 13 -/
mutual
def spec_ModelConf.l0 : Nat → List (S28) → List (S67) → Int → Option ((List (S67)))
 | 0, _, _, _ => none
 | k + 1, x0, x3, x4 => if x4 < 5 then ((spec_sections.f).bind fun t172 => (if 0 ≤ x4 then (if x4 < (t172.length : Int) then ((spec_sections.f).bind fun t177 => (if x4 < (t177.length : Int) then ((spec_defs.f k x0 ((rd_T71 t177 x4).f1)).bind fun t181 => (spec_ModelConf.l1 k x0 x3 x4 t181 0 ((rd_T71 t172 x4).f0) ([] : List (S69)))) else (none))) else (none)) else (none))) else (some x3)
def spec_ModelConf.l1 : Nat → List (S28) → List (S67) → Int → List (S28) → Int → ByteArray → List (S69) → Option ((List (S67)))
 | 0, _, _, _, _, _, _, _ => none
 | k + 1, x0, x3, x4, x6, x7, x177000, x177002 => if x7 < (x6.length : Int) then (if 0 ≤ x7 then (if x177002.length < 3518437208883 then (spec_ModelConf.l1 k x0 x3 x4 x6 (wrap64 (x7 + 1)) x177000 (x177002 ++ [(⟨(rd_T28 x6 x7).f1, (([(rd_T28 x6 x7).f2] : List ByteArray))⟩ : S69)])) else (none)) else (none)) else (if (x6.length : Int) > 0 then (if x3.length < 2199023255552 then (spec_ModelConf.l0 k x0 (x3 ++ [(⟨x177000, ([] : List ByteArray), x177002⟩ : S67)]) (wrap64 (x4 + 1))) else (none)) else (spec_ModelConf.l0 k x0 x3 (wrap64 (x4 + 1))))
end
def spec_ModelConf.f (k : Nat) (l0 : List (S28)) : Option ((List (S67))) := spec_ModelConf.l0 k l0 ([] : List (S67)) 0
theorem spec_ModelConf.mono_l : ∀ k, (∀ y0 y1 y2, LeO (spec_ModelConf.l0 k y0 y1 y2) (spec_ModelConf.l0 (k + 1) y0 y1 y2)) ∧ (∀ y0 y1 y2 y3 y4 y5 y6, LeO (spec_ModelConf.l1 k y0 y1 y2 y3 y4 y5 y6) (spec_ModelConf.l1 (k + 1) y0 y1 y2 y3 y4 y5 y6))
 | 0 => ⟨fun _ _ _ r h => by simp [spec_ModelConf.l0] at h, fun _ _ _ _ _ _ _ r h => by simp [spec_ModelConf.l1] at h⟩
 | k + 1 => by
  obtain ⟨ih0, ih1⟩ := spec_ModelConf.mono_l k
  refine ⟨?_, ?_⟩
  ·intro y0 y1 y2
   unfold spec_ModelConf.l0
   repeat' first
   | (with_reducible exact ih0 _ _ _)
   | (with_reducible exact ih1 _ _ _ _ _ _ _)
   | (with_reducible exact spec_defs.mono _ _ _)
   | (with_reducible exact LeO.refl _)
   | (with_reducible exact LeO.none _)
   | (with_reducible refine LeO.ite ?_ ?_)
   | (with_reducible refine LeO.bind ?_ (fun _ => ?_))
   | exact ih0 _ _ _
   | exact ih1 _ _ _ _ _ _ _
   | exact spec_defs.mono _ _ _
   | exact LeO.none _
   | refine LeO.ite ?_ ?_
   | refine LeO.bind ?_ (fun _ => ?_)
  ·intro y0 y1 y2 y3 y4 y5 y6
   unfold spec_ModelConf.l1
   repeat' first
   | (with_reducible exact ih0 _ _ _)
   | (with_reducible exact ih1 _ _ _ _ _ _ _)
   | (with_reducible exact spec_defs.mono _ _ _)
   | (with_reducible exact LeO.refl _)
   | (with_reducible exact LeO.none _)
   | (with_reducible refine LeO.ite ?_ ?_)
   | (with_reducible refine LeO.bind ?_ (fun _ => ?_))
   | exact ih0 _ _ _
   | exact ih1 _ _ _ _ _ _ _
   | exact spec_defs.mono _ _ _
   | exact LeO.none _
   | refine LeO.ite ?_ ?_
   | refine LeO.bind ?_ (fun _ => ?_)
theorem spec_ModelConf.mono : ∀ a0 k, LeO (spec_ModelConf.f k a0) (spec_ModelConf.f (k + 1) a0) := by
 intro a0 k
 obtain ⟨ih0, ih1⟩ := spec_ModelConf.mono_l k
 unfold spec_ModelConf.f
 repeat' first
   | (with_reducible exact ih0 _ _ _)
   | (with_reducible exact ih1 _ _ _ _ _ _ _)
   | (with_reducible exact spec_defs.mono _ _ _)
   | (with_reducible exact LeO.refl _)
   | (with_reducible exact LeO.none _)
   | (with_reducible refine LeO.ite ?_ ?_)
   | (with_reducible refine LeO.bind ?_ (fun _ => ?_))
   | exact ih0 _ _ _
   | exact ih1 _ _ _ _ _ _ _
   | exact spec_defs.mono _ _ _
   | exact LeO.none _
   | refine LeO.ite ?_ ?_
   | refine LeO.bind ?_ (fun _ => ?_)
def spec_ModelConf.T10 : Bool × List (List Nat × List Nat) := (true, [([], []), ([0], [0]), ([], []), ([], []), ([2, 3], [2, 3]), ([4], [4]), ([5], [5]), ([], []), ([], []), ([7, 8], [7, 8]), ([9], [9]), ([10], [10]), ([11], [11]), ([6, 12], [6, 12]), ([13], [13]), ([1, 14], [1, 14]), ([0, 1, 2, 3, 4, 5, 6, 7, 8, 9, 10, 11, 12, 13, 14, 15], []), ([16, 15, 15, 0, 1, 2, 3, 4, 5, 6, 7, 8, 9, 10, 11, 12, 13, 14, 15], [15, 16])])
def spec_ModelConf.B10 : List Nat := [0, 1, 0, 0, 12, 28, 60, 0, 0, 384, 896, 1920, 3968, 8188, 16380, 32767, 65535, 131071]
theorem spec_ModelConf.tab10 : rtab .any (opsOf Tryz.f13 10) = spec_ModelConf.T10 := by kernel_rfl
theorem spec_ModelConf.bits10 : waitsOk spec_ModelConf.T10.2 spec_ModelConf.B10 = true := by kernel_rfl
set_option maxHeartbeats 8000000 in
set_option maxRecDepth 100000 in
theorem spec_ModelConf.calls (k : Nat) (A0 : Option Addr) (c0 : Nat) (l0 : List (S28)) (r : List (S67)) (w : World) (hr0 : Kd.C k28 w A0 l0.length l0) (hc0 : l0.length ≤ c0) (h : spec_ModelConf.f k l0 = some r) :
  Calls Tryz.prog 13 #[.slice A0 l0.length c0] w fun e w' => ∃ v0_ : Value, e = .returned (v0_) ∧ Kd.R k67 67 w' w.heap.size (fun _ => True) v0_ r ∧ Below w.heap.size w w' := by
 have hu67 := Tryz.underlying67
 have hu69 := Tryz.underlying69
 have HR0 := Aside0.mk hr0
 have HC0 := Aside0.mk hc0
 clear hr0 hc0
 have HB := Aside0.mk (Below.refl w.heap.size w)
 have H : (spec_ModelConf.l0 k l0 ([] : List (S67)) 0) = some r := h
 clear h
 have H' := Aside0.mk H
 clear H
 go_enter Tryz.func13, Tryz.ntmps13
 go_wp2
 go_loopg [3, 4] k (fun kq v3 v4 w' => ∃ (x3_1 : List (S67)) (x4_1 : Int), v4 = .int .i64 x4_1 ∧ Aside0 (spec_ModelConf.l0 kq l0 x3_1 x4_1 = some r) ∧ Aside0 (kq ≤ k) ∧ Aside0 (Kd.R k67 67 w' w.heap.size (fun _ => True) v3 x3_1) ∧ Aside0 (Below w.heap.size w w'))
 case atStart => exact ⟨(([] : List (S67))), (0), orf, H', ⟨Nat.le_refl _⟩, ⟨by first | exact Kd.R_nil _ _ _ _ _ | exact Kd.N_nil _ _ _ _ _ | exact Kd.V_nil _ _ _ _ _ | exact Kd.Q_nil _ _ _ _ _ | exact Kd.S_nil _ _ _ _ _⟩, ⟨by repeat (first | (with_reducible first | exact HB.out | apply below_alloc | apply pw_below_drewN | apply below_drew1) | exact HB.out)⟩⟩
 case round =>
  clear H'
  try clear c1
  obtain ⟨x3_1, x4_1, rfl, HA, HK1, HO_3, HB⟩ := hrel
  cases gk with
  | zero => exact absurd HA.out (by simp [spec_ModelConf.l0])
  | succ k1 =>
   have H := HA.out
   clear HA
   simp only [spec_ModelConf.l0] at H
   by_cases c2 : x4_1 < 5
   ·rw [if_pos c2] at H
    have c2b0 : decide (x4_1 < 5) = true := decide_eq_true c2
    clear c2
    replace H := Option.bind_eq_some_iff.mp H
    obtain ⟨t172, A30, H⟩ := H
    replace H : (if 0 ≤ x4_1 then (if x4_1 < (t172.length : Int) then ((spec_sections.f).bind fun t177 => (if x4_1 < (t177.length : Int) then ((spec_defs.f k1 l0 ((rd_T71 t177 x4_1).f1)).bind fun t181 => (spec_ModelConf.l1 k1 l0 x3_1 x4_1 t181 0 ((rd_T71 t172 x4_1).f0) ([] : List (S69)))) else (none))) else (none)) else (none)) = some r := H
    have A3 := Aside0.mk A30
    clear A30
    by_cases c4 : 0 ≤ x4_1
    ·rw [if_pos c4] at H
     have c4b0 : decide (0 ≤ x4_1) = true := decide_eq_true c4
     clear c4
     by_cases c5 : x4_1 < (t172.length : Int)
     ·rw [if_pos c5] at H
      have c5b0 : decide (x4_1 < (t172.length : Int)) = true := decide_eq_true c5
      clear c5
      replace H := Option.bind_eq_some_iff.mp H
      obtain ⟨t177, A60, H⟩ := H
      replace H : (if x4_1 < (t177.length : Int) then ((spec_defs.f k1 l0 ((rd_T71 t177 x4_1).f1)).bind fun t181 => (spec_ModelConf.l1 k1 l0 x3_1 x4_1 t181 0 ((rd_T71 t172 x4_1).f0) ([] : List (S69)))) else (none)) = some r := H
      have A6 := Aside0.mk A60
      clear A60
      by_cases c7 : x4_1 < (t177.length : Int)
      ·rw [if_pos c7] at H
       have c7b0 : decide (x4_1 < (t177.length : Int)) = true := decide_eq_true c7
       clear c7
       replace H := Option.bind_eq_some_iff.mp H
       obtain ⟨t181, A80, H⟩ := H
       replace H : (spec_ModelConf.l1 k1 l0 x3_1 x4_1 t181 0 ((rd_T71 t172 x4_1).f0) ([] : List (S69))) = some r := H
       have A8 := Aside0.mk A80
       clear A80
       have H' := Aside0.mk H
       clear H
       go_wp2_with (first | ((with_reducible refine gate_callee (f := 28) rfl ?_); refine goesL_ (some 12) rfl rfl Tryz.func28 (by kernel_rfl) rfl #[] rfl (by (try simp only [List.map_toArray, List.map_cons, List.map_nil]); first | done | rfl | (simp only [List.length_drop, List.length_take]; rfl)) ?_; (with_reducible refine (spec_sections.calls  t172 _ A3.out).mono ?_); rintro e w9 ⟨v173, rfl, ho0, hb⟩; refine ⟨_, rfl, ?_⟩; have n0_ := Aside0.mk (Kd.R_below (by (with_reducible repeat (first | apply Kd.R_alloc | apply Kd.R_drewN | apply Kd.R_drew)); exact HO_3.out) hb); have n1_ := Aside0.mk (Kd.R_lower ho0 (below_size (by repeat (first | (with_reducible first | exact HB.out | apply below_alloc | apply pw_below_drewN | apply below_drew1) | exact HB.out)))); have n2_ := Aside0.mk (below_step (by repeat (first | (with_reducible first | exact HB.out | apply below_alloc | apply pw_below_drewN | apply below_drew1) | exact HB.out)) hb); clear HO_3; clear HB; have HO_3 := n0_; have HO174 := n1_; have HB := n2_; clear n0_ n1_ n2_; (try clear hb); (try clear hb2); (try clear hk); (try clear hi); (try clear ho0); obtain ⟨Ao10, co10, eo10⟩ := Kd.R_slice HO174.out; subst eo10; have p175 : 0 ≤ (x4_1 : Int) := odt; have q175 : x4_1 < (t172.length : Int) := odt; obtain ⟨ad175, e175, hx175_0, hx175_1⟩ := at_T71 (Kd.R_reads' HO174.out).2.2 x4_1 p175 q175; cases e175; replace p175 := eq_true p175; replace q175 := eq_true q175) | ((with_reducible refine gate_dst (N := 5) rfl ?_); refine box_event ?hg (N := 5) ?hd (cs := #[.string (⟨#[]⟩ : ByteArray), .slice none 0 0, .slice none 0 0]) (t := 67) ?hr ?_; (case hd => rfl); (case hg => rfl); (case hr => first | (go_simp; done) | (go_simp; rfl)); intro gb176 hg w11 hbox hb; have n0_ := Aside0.mk (Kd.R_below (Kd.R_elderB (by (with_reducible repeat (first | apply Kd.R_alloc | apply Kd.R_drewN | apply Kd.R_drew)); exact HO_3.out) gb176 (Nat.le_of_eq hg.symm)) hb); have n1_ := Aside0.mk (Kd.R_below (by (with_reducible repeat (first | apply Kd.R_alloc | apply Kd.R_drewN | apply Kd.R_drew)); exact HO174.out) hb); have n2_ := Aside0.mk (below_step (by repeat (first | (with_reducible first | exact HB.out | apply below_alloc | apply pw_below_drewN | apply below_drew1) | exact HB.out)) hb); have n3_ := Aside0.mk (hbox); have n4_ := Aside0.mk ((by rw [hg]; exact (below_size (by repeat (first | (with_reducible first | exact HB.out | apply below_alloc | apply pw_below_drewN | apply below_drew1) | exact HB.out))) : w.heap.size ≤ gb176)); have n5_ := Aside0.mk ((by rw [hg]; exact (below_size (by repeat (first | (with_reducible first | exact HB.out | apply below_alloc | apply pw_below_drewN | apply below_drew1) | exact HB.out))) : w.heap.size ≤ gb176)); clear HO_3; clear HO174; clear HB; have HO_3 := n0_; have HO174 := n1_; have HB := n2_; have BK176 := n3_; have GW176 := n4_; have GE176 := n5_; clear n0_ n1_ n2_ n3_ n4_ n5_; clear hb hbox hg; have hcz12_0 : w11.cell? ⟨gb176, 0, none⟩ = some (.string (⟨#[]⟩ : ByteArray)) := (blk_cell BK176.out 0).trans rfl; have hcz12_1 : w11.cell? ⟨gb176, 1, none⟩ = some (.slice none 0 0) := (blk_cell BK176.out 1).trans rfl; have hcz12_2 : w11.cell? ⟨gb176, 2, none⟩ = some (.slice none 0 0) := (blk_cell BK176.out 2).trans rfl; have hfz12_0 := blk_frozen BK176.out 0; have hfz12_1 := blk_frozen BK176.out 1; have hfz12_2 := blk_frozen BK176.out 2) | ((with_reducible refine gate_callee (f := 28) rfl ?_); refine goesL_ (some 19) rfl rfl Tryz.func28 (by kernel_rfl) rfl #[] rfl (by (try simp only [List.map_toArray, List.map_cons, List.map_nil]); first | done | rfl | (simp only [List.length_drop, List.length_take]; rfl)) ?_; (with_reducible refine (spec_sections.calls  t177 _ A6.out).mono ?_); rintro e w13 ⟨v178, rfl, ho0, hb⟩; refine ⟨_, rfl, ?_⟩; have n0_ := Aside0.mk (Kd.R_below (by (with_reducible repeat (first | apply Kd.R_alloc | apply Kd.R_drewN | apply Kd.R_drew)); exact (Kd.R_mono (Kd.R_far (p := ⟨gb176, 2, none⟩) (Kd.R_far (p := ⟨gb176, 1, none⟩) (Kd.R_far (p := ⟨gb176, 0, none⟩) (Kd.R_mono HO_3.out (fun k_ hk => (⟨hk, hk.2⟩ : _ ∧ k_ ≠ gb176))) (fun _ hk => hk.2) (.string ((rd_T71 t172 x4_1).f0))) (fun _ hk => hk.2) (.slice none 0 0)) (fun _ hk => hk.2) (.slice none 0 0)) (fun _ h_ => h_.1))) hb); have n1_ := Aside0.mk (Kd.R_elder' (by (with_reducible repeat (first | apply Kd.R_alloc | apply Kd.R_drewN | apply Kd.R_drew)); exact (Kd.R_mono (Kd.R_far (p := ⟨gb176, 2, none⟩) (Kd.R_far (p := ⟨gb176, 1, none⟩) (Kd.R_far (p := ⟨gb176, 0, none⟩) (Kd.R_types HO174.out BK176.out (by decide)) (fun _ hk => hk.2) (.string ((rd_T71 t172 x4_1).f0))) (fun _ hk => hk.2) (.slice none 0 0)) (fun _ hk => hk.2) (.slice none 0 0)) (fun _ h_ => h_.1))) (Kd.R_base ho0) hb); have n2_ := Aside0.mk (Kd.R_lower (Kd.R_new' ho0 (Kd.R_lt (by (with_reducible repeat (first | apply Kd.R_alloc | apply Kd.R_drewN | apply Kd.R_drew)); exact (Kd.R_mono (Kd.R_far (p := ⟨gb176, 2, none⟩) (Kd.R_far (p := ⟨gb176, 1, none⟩) (Kd.R_far (p := ⟨gb176, 0, none⟩) (Kd.R_types HO174.out BK176.out (by decide)) (fun _ hk => hk.2) (.string ((rd_T71 t172 x4_1).f0))) (fun _ hk => hk.2) (.slice none 0 0)) (fun _ hk => hk.2) (.slice none 0 0)) (fun _ h_ => h_.1))))) (below_size (by repeat (first | (with_reducible first | exact HB.out | apply below_alloc | apply pw_below_drewN | apply below_drew1 | refine below_set ?_ GE176.out) | exact HB.out)))); have n3_ := Aside0.mk (blk_below (g := gb176) (o := .cells #[.string ((rd_T71 t172 x4_1).f0), .slice none 0 0, .slice none 0 0] 67 (0, 0)) (by (with_reducible repeat (first | refine blk_drewN ?_ _ | refine blk_drew ?_ | refine blk_alloc ?_ _)); refine blk_put (cs := #[.string ((rd_T71 t172 x4_1).f0), .slice none 0 0, .slice none 0 0]) ?_ 2 _ rfl; (with_reducible repeat (first | refine blk_drewN ?_ _ | refine blk_drew ?_ | refine blk_alloc ?_ _)); refine blk_put (cs := #[.string ((rd_T71 t172 x4_1).f0), .slice none 0 0, .slice none 0 0]) ?_ 1 _ rfl; (with_reducible repeat (first | refine blk_drewN ?_ _ | refine blk_drew ?_ | refine blk_alloc ?_ _)); refine blk_put (cs := #[.string (⟨#[]⟩ : ByteArray), .slice none 0 0, .slice none 0 0]) ?_ 0 _ rfl; (with_reducible repeat (first | refine blk_drewN ?_ _ | refine blk_drew ?_ | refine blk_alloc ?_ _)); exact BK176.out) hb); have n4_ := Aside0.mk (below_step (by repeat (first | (with_reducible first | exact HB.out | apply below_alloc | apply pw_below_drewN | apply below_drew1 | refine below_set ?_ GE176.out) | exact HB.out)) hb); clear HO_3; clear HO174; clear BK176; clear HB; have HO_3 := n0_; have HO174 := n1_; have HO179 := n2_; have BK176 := n3_; have HB := n4_; clear n0_ n1_ n2_ n3_ n4_; (try clear hb); (try clear hb2); (try clear hk); (try clear hi); (try clear ho0); obtain ⟨Ao14, co14, eo14⟩ := Kd.R_slice HO179.out; subst eo14; have p180 : 0 ≤ (x4_1 : Int) := odt; have q180 : x4_1 < (t177.length : Int) := odt; obtain ⟨ad180, e180, hx180_0, hx180_1⟩ := at_T71 (Kd.R_reads' HO179.out).2.2 x4_1 p180 q180; cases e180; replace p180 := eq_true p180; replace q180 := eq_true q180) | ((with_reducible refine gate_callee (f := 29) rfl ?_); refine goesL_ (some 24) rfl rfl Tryz.func29 (by kernel_rfl) rfl #[.slice A0 l0.length c0, .string ((rd_T71 t177 x4_1).f1)] rfl (by (try simp only [List.map_toArray, List.map_cons, List.map_nil]); first | done | rfl | (simp only [List.length_drop, List.length_take]; rfl)) ?_; (with_reducible refine (spec_defs.calls k1 _ _ l0 ((rd_T71 t177 x4_1).f1) t181 _ ?side1 ?side2 A8.out).mono ?_); (case side1 => repeat (first | exact (Kd.C_below HR0.out HB.out) | (with_reducible refine Kd.C_alloc ?_ _) | (with_reducible refine Kd.C_drewN ?_ _) | (with_reducible refine Kd.C_drew ?_))); (case side2 => exact HC0.out); rintro e w15 ⟨v182, rfl, ho0, hb⟩; refine ⟨_, rfl, ?_⟩; have n0_ := Aside0.mk (Kd.R_below (by (with_reducible repeat (first | apply Kd.R_alloc | apply Kd.R_drewN | apply Kd.R_drew)); exact HO_3.out) hb); have n1_ := Aside0.mk (Kd.R_below (by (with_reducible repeat (first | apply Kd.R_alloc | apply Kd.R_drewN | apply Kd.R_drew)); exact HO174.out) hb); have n2_ := Aside0.mk (Kd.R_below (by (with_reducible repeat (first | apply Kd.R_alloc | apply Kd.R_drewN | apply Kd.R_drew)); exact HO179.out) hb); have n3_ := Aside0.mk (Kd.R_lower ho0 (below_size (by repeat (first | (with_reducible first | exact HB.out | apply below_alloc | apply pw_below_drewN | apply below_drew1 | refine below_set ?_ GE176.out) | exact HB.out)))); have n4_ := Aside0.mk (blk_below (g := gb176) (o := .cells #[.string ((rd_T71 t172 x4_1).f0), .slice none 0 0, .slice none 0 0] 67 (0, 0)) (by (with_reducible repeat (first | refine blk_drewN ?_ _ | refine blk_drew ?_ | refine blk_alloc ?_ _)); exact BK176.out) hb); have n5_ := Aside0.mk (below_step (by repeat (first | (with_reducible first | exact HB.out | apply below_alloc | apply pw_below_drewN | apply below_drew1 | refine below_set ?_ GE176.out) | exact HB.out)) hb); clear HO_3; clear HO174; clear HO179; clear BK176; clear HB; have HO_3 := n0_; have HO174 := n1_; have HO179 := n2_; have HO183 := n3_; have BK176 := n4_; have HB := n5_; clear n0_ n1_ n2_ n3_ n4_ n5_; (try clear hb); (try clear hb2); (try clear hk); (try clear hi); (try clear ho0)))
       go_loopg [7] k1 (fun kq v7 w' => ∃ (x7_2 : Int) (x177002_2 : List (S69)) (u177002 : Value), v7 = .int .i64 x7_2 ∧ Aside0 (spec_ModelConf.l1 kq l0 x3_1 x4_1 t181 x7_2 ((rd_T71 t172 x4_1).f0) x177002_2 = some r) ∧ Aside0 (kq ≤ k1) ∧ Aside0 (Kd.R k67 67 w' w.heap.size (fun k_ => some k_ ≠ (u177002 : Value).ownBlock ∧ k_ ≠ gb176) u3 x3_1) ∧ Aside0 (Kd.R k28 28 w' w.heap.size (fun _ => True) v182 t181) ∧ Aside0 (Kd.S k69 69 w' w.heap.size (fun _ => True) u177002 x177002_2) ∧ Aside0 (w'.heap[gb176]? = some (.cells #[.string ((rd_T71 t172 x4_1).f0), (.slice none 0 0), u177002] 67 (0, 0))) ∧ Aside0 (Below w.heap.size w w'))
       case atStart => exact ⟨(0), (([] : List (S69))), (.slice none 0 0), orf, H', ⟨Nat.le_refl _⟩, ⟨by (with_reducible repeat (first | apply Kd.R_alloc | apply Kd.R_drewN | apply Kd.R_drew)); exact Kd.R_mono HO_3.out (fun _ hk => ⟨(by simp [Value.ownBlock]), hk.2⟩)⟩, ⟨by (with_reducible repeat (first | apply Kd.R_alloc | apply Kd.R_drewN | apply Kd.R_drew)); exact HO183.out⟩, ⟨by first | exact Kd.S_nil _ _ _ _ _ | exact Kd.N_nil _ _ _ _ _ | exact Kd.V_nil _ _ _ _ _ | exact Kd.Q_nil _ _ _ _ _ | exact Kd.R_nil _ _ _ _ _⟩, ⟨by (with_reducible repeat (first | refine blk_drewN ?_ _ | refine blk_drew ?_ | refine blk_alloc ?_ _)); exact BK176.out⟩, ⟨by repeat (first | (with_reducible first | exact HB.out | apply below_alloc | apply pw_below_drewN | apply below_drew1 | refine below_set ?_ GE176.out) | exact HB.out)⟩⟩
       case round =>
        clear H'
        try clear c1
        try clear p1
        try clear q1
        try clear hx1
        try clear c2
        try clear c2b0
        try clear p2
        try clear c4
        try clear c4b0
        try clear c5
        try clear c5b0
        try clear c7
        try clear c7b0
        try clear c13
        try clear hcz12_0
        try clear hcz12_1
        try clear hcz12_2
        try clear hfz12_0
        try clear hfz12_1
        try clear hfz12_2
        try clear hx175_0
        try clear hx175_1
        try clear hx180_0
        try clear hx180_1
        try clear p175
        try clear p180
        try clear q175
        try clear q180
        obtain ⟨x7_2, x177002_2, u177002, rfl, HA, HK2, HO_3, HO_6, HO_177002, BK176, HB⟩ := hrel
        cases gk with
        | zero => exact absurd HA.out (by simp [spec_ModelConf.l1])
        | succ k2 =>
         have H := HA.out
         clear HA
         simp only [spec_ModelConf.l1] at H
         by_cases c16 : x7_2 < (t181.length : Int)
         ·rw [if_pos c16] at H
          have c16b0 : decide (x7_2 < (t181.length : Int)) = true := decide_eq_true c16
          clear c16
          by_cases c17 : 0 ≤ x7_2
          ·rw [if_pos c17] at H
           have c17b0 : decide (0 ≤ x7_2) = true := decide_eq_true c17
           clear c17
           obtain ⟨y186, hy186⟩ : ∃ y_ : List ByteArray, y_ = (([(rd_T28 t181 x7_2).f2] : List ByteArray)) := ⟨_, rfl⟩
           replace H : (if x177002_2.length < 3518437208883 then (spec_ModelConf.l1 k2 l0 x3_1 x4_1 t181 (wrap64 (x7_2 + 1)) ((rd_T71 t172 x4_1).f0) (x177002_2 ++ [(⟨(rd_T28 t181 x7_2).f1, y186⟩ : S69)])) else (none)) = some r := by first | (rw [hy186]; with_reducible exact H) | (have H2_ := (Option.bind_some _ _).symm.trans H; rw [hy186]; with_reducible exact H2_) | (have H2_ := (Option.bind_some _ _).symm.trans H; with_reducible exact H2_) | with_reducible exact H | (rw [hy186]; exact H) | exact H
           have Ny186 := Aside0.mk hy186
           clear hy186
           by_cases c18 : x177002_2.length < 3518437208883
           ·rw [if_pos c18] at H
            have LMc18 := Aside0.mk c18
            clear c18
            obtain ⟨y189, hy189⟩ : ∃ y_ : List (S69), y_ = (x177002_2 ++ [(⟨(rd_T28 t181 x7_2).f1, y186⟩ : S69)]) := ⟨_, rfl⟩
            replace H : (spec_ModelConf.l1 k2 l0 x3_1 x4_1 t181 (wrap64 (x7_2 + 1)) ((rd_T71 t172 x4_1).f0) y189) = some r := by first | (rw [hy189]; with_reducible exact H) | (have H2_ := (Option.bind_some _ _).symm.trans H; rw [hy189]; with_reducible exact H2_) | (have H2_ := (Option.bind_some _ _).symm.trans H; with_reducible exact H2_) | with_reducible exact H | (rw [hy189]; exact H) | exact H
            have Ny189 := Aside0.mk hy189
            clear hy189
            have H' := Aside0.mk H
            clear H
            obtain ⟨Ao19, co19, eo19⟩ := Kd.R_slice HO_6.out
            subst eo19
            try go_wp2
            have n0_ := Aside0.mk (Kd.R_drew HO_3.out)
            have n1_ := Aside0.mk (Kd.R_drew HO_6.out)
            have n2_ := Aside0.mk (Kd.S_drew HO_177002.out)
            have n3_ := Aside0.mk (blk_drew BK176.out)
            have n4_ := Aside0.mk (below_drew1 HB.out)
            clear HO_3
            clear HO_6
            clear HO_177002
            clear BK176
            clear HB
            have HO_3 := n0_
            have HO_6 := n1_
            have HO_177002 := n2_
            have BK176 := n3_
            have HB := n4_
            clear n0_ n1_ n2_ n3_ n4_
            have p184 : 0 ≤ (x7_2 : Int) := odt
            have q184 : x7_2 < (t181.length : Int) := odt
            obtain ⟨ad184, e184, hx184_0, hx184_1, hx184_2⟩ := at_T28 (Kd.R_reads' HO_6.out).2.2 x7_2 p184 q184
            cases e184
            replace p184 := eq_true p184
            replace q184 := eq_true q184
            have p185 : 0 ≤ (x7_2 : Int) := odt
            have q185 : x7_2 < (t181.length : Int) := odt
            obtain ⟨ad185, e185, hx185_0, hx185_1, hx185_2⟩ := at_T28 (Kd.R_reads' HO_6.out).2.2 x7_2 p185 q185
            obtain rfl : ad184 = ad185 := (by injection e185)
            replace p185 := eq_true p185
            replace q185 := eq_true q185
            refine start_ (n := 18) (S := fun w' => w'.cell? ⟨gb176, 0, none⟩ = some (.string ((rd_T71 t172 x4_1).f0)) ∧ w'.cell? ⟨gb176, 1, none⟩ = some (.slice none 0 0) ∧ w'.cell? ⟨gb176, 2, none⟩ = some (u177002) ∧ w'.cell? (ad184.add ((x7_2).toNat * 3)) = some (.string ((rd_T28 t181 x7_2).f0)) ∧ w'.cell? ⟨(ad184.add ((x7_2).toNat * 3)).block, (ad184.add ((x7_2).toNat * 3)).off + 1, none⟩ = some (.string ((rd_T28 t181 x7_2).f1)) ∧ w'.cell? ⟨(ad184.add ((x7_2).toNat * 3)).block, (ad184.add ((x7_2).toNat * 3)).off + 2, none⟩ = some (.string ((rd_T28 t181 x7_2).f2)) ∧ w'.cell? (ad184.add ((x7_2).toNat * 3)) = some (.string ((rd_T28 t181 x7_2).f0)) ∧ w'.cell? ⟨(ad184.add ((x7_2).toNat * 3)).block, (ad184.add ((x7_2).toNat * 3)).off + 1, none⟩ = some (.string ((rd_T28 t181 x7_2).f1)) ∧ w'.cell? ⟨(ad184.add ((x7_2).toNat * 3)).block, (ad184.add ((x7_2).toNat * 3)).off + 2, none⟩ = some (.string ((rd_T28 t181 x7_2).f2))) (ds := [15, 17]) #[false, false, false, false, false, false, false, false, false, false, false, false, false, false, false, false, false, false] (by kernel_rfl) rfl rfl ⟨(blk_cell BK176.out 0).trans rfl, (blk_cell BK176.out 1).trans rfl, (blk_cell BK176.out 2).trans rfl, hx184_0, hx184_1, hx184_2, hx185_0, hx185_1, hx185_2⟩ (fun hHeld => ?_); refine with_tabW spec_ModelConf.tab10 spec_ModelConf.bits10 (fun HT_ HW_ => ?_)
            generalize wr.drew = w20 at HO_3 HO_6 HO_177002 BK176 HB hx184_0 hx184_1 hx184_2 hx185_0 hx185_1 hx185_2 hHeld ⊢
            refine pure_ (i := 0) (N := some 31) (v := ?_) (a' := ?_) #[true, false, false, false, false, false, false, false, false, false, false, false, false, false, false, false, false, false] rfl rfl (any_of HT_.out (by kernel_rfl)) (fun _ _ _ h => h) (Or.inl ⟨by rfl, ?_⟩) ?_ ?_
            rotate_left
            ·intro w'
             go_simp
             with_reducible rfl
            rotate_left
            ·simp only [Act.put, List.setIfInBounds_toArray, List.set_cons_zero, List.set_cons_succ, i64_w, i32_w]
             rfl
            refine pure_ (i := 2) (N := some 33) (v := ?_) (a' := ?_) #[true, false, true, false, false, false, false, false, false, false, false, false, false, false, false, false, false, false] rfl rfl (any_of HT_.out (by kernel_rfl)) (fun _ _ _ h => h) (Or.inl ⟨by rfl, ?_⟩) ?_ ?_
            rotate_left
            ·intro w'
             go_simp
             with_reducible rfl
            rotate_left
            ·simp only [Act.put, List.setIfInBounds_toArray, List.set_cons_zero, List.set_cons_succ, i64_w, i32_w]
             rfl
            refine pure_ (i := 3) (N := some 34) (v := ?_) (a' := ?_) #[true, false, true, true, false, false, false, false, false, false, false, false, false, false, false, false, false, false] rfl rfl (any_of HT_.out (by kernel_rfl)) (fun _ _ _ h => h) (Or.inl ⟨by rfl, ?_⟩) ?_ ?_
            rotate_left
            ·intro w'
             go_simp
             with_reducible rfl
            rotate_left
            ·simp only [Act.put, List.setIfInBounds_toArray, List.set_cons_zero, List.set_cons_succ, i64_w, i32_w]
             rfl
            refine pure_ (i := 4) (N := some 35) (v := ?_) (a' := ?_) #[true, false, true, true, true, false, false, false, false, false, false, false, false, false, false, false, false, false] rfl rfl (any_of HT_.out (by kernel_rfl)) (fun _ _ _ h => h) (Or.inl ⟨by rfl, ?_⟩) ?_ ?_
            rotate_left
            ·intro w'
             go_simp
             with_reducible rfl
            rotate_left
            ·simp only [Act.put, List.setIfInBounds_toArray, List.set_cons_zero, List.set_cons_succ, i64_w, i32_w]
             rfl
            refine pure_ (i := 5) (N := some 36) (v := ?_) (a' := ?_) #[true, false, true, true, true, true, false, false, false, false, false, false, false, false, false, false, false, false] rfl rfl (any_of HT_.out (by kernel_rfl)) (fun _ _ _ h => h) (Or.inl ⟨by rfl, ?_⟩) ?_ ?_
            rotate_left
            ·intro w'
             go_simp
             with_reducible rfl
            rotate_left
            ·simp only [Act.put, List.setIfInBounds_toArray, List.set_cons_zero, List.set_cons_succ, i64_w, i32_w]
             rfl
            refine pure_ (i := 7) (N := some 38) (v := ?_) (a' := ?_) #[true, false, true, true, true, true, false, true, false, false, false, false, false, false, false, false, false, false] rfl rfl (any_of HT_.out (by kernel_rfl)) (fun _ _ _ h => h) (Or.inl ⟨by rfl, ?_⟩) ?_ ?_
            rotate_left
            ·intro w'
             go_simp
             with_reducible rfl
            rotate_left
            ·simp only [Act.put, List.setIfInBounds_toArray, List.set_cons_zero, List.set_cons_succ, i64_w, i32_w]
             rfl
            refine pure_ (i := 8) (N := some 39) (v := ?_) (a' := ?_) #[true, false, true, true, true, true, false, true, true, false, false, false, false, false, false, false, false, false] rfl rfl (any_of HT_.out (by kernel_rfl)) (fun _ _ _ h => h) (Or.inl ⟨by rfl, ?_⟩) ?_ ?_
            rotate_left
            ·intro w'
             go_simp
             with_reducible rfl
            rotate_left
            ·simp only [Act.put, List.setIfInBounds_toArray, List.set_cons_zero, List.set_cons_succ, i64_w, i32_w]
             rfl
            refine pure_ (i := 9) (N := some 40) (v := ?_) (a' := ?_) #[true, false, true, true, true, true, false, true, true, true, false, false, false, false, false, false, false, false] rfl rfl (any_of HT_.out (by kernel_rfl)) (fun _ _ _ h => h) (Or.inl ⟨by rfl, ?_⟩) ?_ ?_
            rotate_left
            ·intro w'
             go_simp
             with_reducible rfl
            rotate_left
            ·simp only [Act.put, List.setIfInBounds_toArray, List.set_cons_zero, List.set_cons_succ, i64_w, i32_w]
             rfl
            refine pure_ (i := 10) (N := some 41) (v := ?_) (a' := ?_) #[true, false, true, true, true, true, false, true, true, true, true, false, false, false, false, false, false, false] rfl rfl (any_of HT_.out (by kernel_rfl)) (fun _ _ _ h => h) (Or.inl ⟨by rfl, ?_⟩) ?_ ?_
            rotate_left
            ·intro w'
             go_simp
             with_reducible rfl
            rotate_left
            ·simp only [Act.put, List.setIfInBounds_toArray, List.set_cons_zero, List.set_cons_succ, i64_w, i32_w]
             rfl
            refine take_ (i := 1) (N := some 32) (v := ?_) (a' := ?_) #[true, true, true, true, true, true, false, true, true, true, true, false, false, false, false, false, false, false] rfl rfl (take_ofW HT_.out HW_.out (by kernel_rfl)) (fun _ _ _ h => h) (Or.inl ⟨by rfl, ?_⟩) hHeld ?_ ?_
            rotate_left
            ·rintro w' ⟨s0, s1, s2, s3, s4, s5, s6, s7, s8⟩
             go_simp
             with_reducible rfl
            rotate_left
            ·simp only [Act.put, List.setIfInBounds_toArray, List.set_cons_zero, List.set_cons_succ, i64_w, i32_w]
             rfl
            refine take_ (i := 6) (N := some 37) (v := ?_) (a' := ?_) #[true, true, true, true, true, true, true, true, true, true, true, false, false, false, false, false, false, false] rfl rfl (take_ofW HT_.out HW_.out (by kernel_rfl)) (fun _ _ _ h => h) (Or.inl ⟨by rfl, ?_⟩) hHeld ?_ ?_
            rotate_left
            ·rintro w' ⟨s0, s1, s2, s3, s4, s5, s6, s7, s8⟩
             go_simp
             with_reducible rfl
            rotate_left
            ·simp only [Act.put, List.setIfInBounds_toArray, List.set_cons_zero, List.set_cons_succ, i64_w, i32_w]
             rfl
            refine take_ (i := 11) (N := some 42) (v := ?_) (a' := ?_) #[true, true, true, true, true, true, true, true, true, true, true, true, false, false, false, false, false, false] rfl rfl (take_ofW HT_.out HW_.out (by kernel_rfl)) (fun _ _ _ h => h) (Or.inl ⟨by rfl, ?_⟩) hHeld ?_ ?_
            rotate_left
            ·rintro w' ⟨s0, s1, s2, s3, s4, s5, s6, s7, s8⟩
             go_simp
             with_reducible rfl
            rotate_left
            ·simp only [Act.put, List.setIfInBounds_toArray, List.set_cons_zero, List.set_cons_succ, i64_w, i32_w]
             rfl
            refine one_ (i := 12) (N := some 43) #[true, true, true, true, true, true, true, true, true, true, true, true, true, false, false, false, false, false] rfl rfl (one_of HT_.out (by kernel_rfl)) (by decide) (fun K hK => ?_)
            refine Kd.R_lit_step Kd.string _ 9 ?hg (N := 43) ?hd (xs := ([(rd_T28 t181 x7_2).f2] : List ByteArray)) (inner := [.string ((rd_T28 t181 x7_2).f2)]) (ok := fun _ => True) (okp := fun _ => True) ?hr ?hp (fun _ hk => hk) trivial (Below.refl _ _) (Nat.le_refl _) (by simp) ?_; (case hd => rfl); (case hg => rfl); (case hr => first | (go_simp; done) | (go_simp; rfl)); (case hp => exact (Reps.one (show Kd.M Kd.string _ _ _ ((rd_T28 t181 x7_2).f2) [.string ((rd_T28 t181 x7_2).f2)] from rfl) (Reps.none _ _)))
            intro v187 w21 ho22 hb hg_ hnew_
            have HS3_ := (hb.cell (World.block_lt_of_cell? _ _ (hHeld.2.2.2.1))).trans (hHeld.2.2.2.1)
            have HS4_ := (hb.cell (World.block_lt_of_cell? _ _ (hHeld.2.2.2.2.1))).trans (hHeld.2.2.2.2.1)
            have HS5_ := (hb.cell (World.block_lt_of_cell? _ _ (hHeld.2.2.2.2.2.1))).trans (hHeld.2.2.2.2.2.1)
            have HS6_ := (hb.cell (World.block_lt_of_cell? _ _ (hHeld.2.2.2.2.2.2.1))).trans (hHeld.2.2.2.2.2.2.1)
            have HS7_ := (hb.cell (World.block_lt_of_cell? _ _ (hHeld.2.2.2.2.2.2.2.1))).trans (hHeld.2.2.2.2.2.2.2.1)
            have HS8_ := (hb.cell (World.block_lt_of_cell? _ _ (hHeld.2.2.2.2.2.2.2.2))).trans (hHeld.2.2.2.2.2.2.2.2)
            clear hg_ hnew_
            (first | rw [← Ny186.out] at ho22 | (simp only [Int.reduceToNat] at ho22; rw [← Ny186.out] at ho22))
            have n0_ := Aside0.mk (Kd.R_elder' (by (with_reducible repeat (first | apply Kd.R_alloc | apply Kd.R_drewN | apply Kd.R_drew)); exact HO_3.out) (Kd.R_base ho22) hb)
            have n1_ := Aside0.mk (Kd.R_below (by (with_reducible repeat (first | apply Kd.R_alloc | apply Kd.R_drewN | apply Kd.R_drew)); exact HO_6.out) hb)
            have n2_ := Aside0.mk (Kd.S_elder' (by (with_reducible repeat (first | apply Kd.S_alloc | apply Kd.S_drewN | apply Kd.S_drew)); exact HO_177002.out) (Kd.R_base ho22) hb)
            have n3_ := Aside0.mk (Kd.R_lower ho22 (below_size (by repeat (first | (with_reducible first | exact HB.out | apply below_alloc | apply pw_below_drewN | apply below_drew1 | refine below_set ?_ GE176.out) | exact HB.out))))
            have n4_ := Aside0.mk (blk_below (g := gb176) (o := .cells #[.string ((rd_T71 t172 x4_1).f0), .slice none 0 0, u177002] 67 (0, 0)) (by (with_reducible repeat (first | refine blk_drewN ?_ _ | refine blk_drew ?_ | refine blk_alloc ?_ _)); exact BK176.out) hb)
            have n5_ := Aside0.mk (below_step (by repeat (first | (with_reducible first | exact HB.out | apply below_alloc | apply pw_below_drewN | apply below_drew1 | refine below_set ?_ GE176.out) | exact HB.out)) hb)
            clear HO_3
            clear HO_6
            clear HO_177002
            clear BK176
            clear HB
            have HO_3 := n0_
            have HO_6 := n1_
            have HO_177002 := n2_
            have HO188 := n3_
            have BK176 := n4_
            have HB := n5_
            clear n0_ n1_ n2_ n3_ n4_ n5_
            clear hb ho22
            obtain ⟨Ao23, co23, eo23⟩ := Kd.R_slice HO188.out
            (first | subst eo23 | (injection eo23 with f1_ f2_ f3_; have f4_ := f1_.symm; have f5_ := f3_.symm; clear f1_ f2_ f3_; subst f4_; subst f5_))
            refine hK.out _ _ ⟨(blk_cell BK176.out 0).trans rfl, (blk_cell BK176.out 1).trans rfl, (blk_cell BK176.out 2).trans rfl, HS3_, HS4_, HS5_, HS6_, HS7_, HS8_⟩ (fun hHeld => ?_)
            clear hK K
            refine norm_ (a' := ?_) ?_ ?_
            rotate_left
            ·show Act.put _ (some 43) _ = _
             simp only [Act.put, List.setIfInBounds_toArray, List.set_cons_zero, List.set_cons_succ, i64_w, i32_w]
             rfl
            refine pure_ (i := 13) (N := some 44) (v := ?_) (a' := ?_) #[true, true, true, true, true, true, true, true, true, true, true, true, true, true, false, false, false, false] rfl rfl (any_of HT_.out (by kernel_rfl)) (fun _ _ _ h => h) (Or.inl ⟨by rfl, ?_⟩) ?_ ?_
            rotate_left
            ·intro w'
             go_simp
             with_reducible rfl
            rotate_left
            ·simp only [Act.put, List.setIfInBounds_toArray, List.set_cons_zero, List.set_cons_succ, i64_w, i32_w]
             rfl
            refine one_ (i := 14) (N := some 45) #[true, true, true, true, true, true, true, true, true, true, true, true, true, true, true, false, false, false] rfl rfl (one_of HT_.out (by kernel_rfl)) (by decide) (fun K hK => ?_)
            refine value_ (w1 := ?_) (v := ?_) (by rfl) rfl ?_ ?_
            rotate_left 2
            ·go_simp
             constructor
             ·rfl
             ·rfl
            refine hK.out _ _ ⟨(blk_cell (blk_alloc BK176.out _) 0).trans rfl, (blk_cell (blk_alloc BK176.out _) 1).trans rfl, (blk_cell (blk_alloc BK176.out _) 2).trans rfl, (World.cell?_alloc_lt _ _ _ (World.block_lt_of_cell? _ _ (hHeld.2.2.2.1))).trans (hHeld.2.2.2.1), (World.cell?_alloc_lt _ _ _ (World.block_lt_of_cell? _ _ (hHeld.2.2.2.2.1))).trans (hHeld.2.2.2.2.1), (World.cell?_alloc_lt _ _ _ (World.block_lt_of_cell? _ _ (hHeld.2.2.2.2.2.1))).trans (hHeld.2.2.2.2.2.1), (World.cell?_alloc_lt _ _ _ (World.block_lt_of_cell? _ _ (hHeld.2.2.2.2.2.2.1))).trans (hHeld.2.2.2.2.2.2.1), (World.cell?_alloc_lt _ _ _ (World.block_lt_of_cell? _ _ (hHeld.2.2.2.2.2.2.2.1))).trans (hHeld.2.2.2.2.2.2.2.1), (World.cell?_alloc_lt _ _ _ (World.block_lt_of_cell? _ _ (hHeld.2.2.2.2.2.2.2.2))).trans (hHeld.2.2.2.2.2.2.2.2)⟩ (fun hHeld => ?_)
            clear hK K
            refine norm_ (a' := ?_) ?_ ?_
            rotate_left
            ·show Act.put _ (some 45) _ = _
             simp only [Act.put, List.setIfInBounds_toArray, List.set_cons_zero, List.set_cons_succ, i64_w, i32_w]
             rfl
            refine last_ (i := 15) (N := some 46) #[true, true, true, true, true, true, true, true, true, true, true, true, true, true, true, true, false, false] rfl rfl (one_of HT_.out (by kernel_rfl)) (by decide) (fun K hK => ?_)
            refine Kd.S_append_step k69 (w0 := w) w.heap.size (by rfl) (.tmp 32) (.tmp 45) 65 69 (.agg #[(.string ⟨#[]⟩), (.slice none 0 0)]) 40 rfl Tryz.underlying65 info69 rfl (by decide) (by omega) u177002 x177002_2 (⟨(rd_T28 t181 x7_2).f1, y186⟩ : S69) [.string ((rd_T28 t181 x7_2).f1), .slice Ao23 y186.length co23] (fun _ => True) (fun k_ => some k_ = (.slice Ao23 y186.length co23 : Value).ownBlock) rfl rfl ?aP (fun k_ hk_ => ((Kd.R_mono (ok' := fun k_ => ((fun _ => True)) k_ ∧ some k_ ≠ (u177002 : Value).ownBlock) (Kd.R_apart' (HO188.out) (Kd.S_typed HO_177002.out) (by decide)) (fun k_ hk => ⟨trivial, hk.2⟩))).1 k_ hk_.symm) ?aF ?aO ?aB ?aS ?aL ?_
            (case aP => exact k69_mkM _ _ _ (⟨(rd_T28 t181 x7_2).f1, y186⟩ : S69) (Kd.R_mono (Kd.R_tight rfl (Kd.R_mono (ok' := fun k_ => ((fun _ => True)) k_ ∧ some k_ ≠ (u177002 : Value).ownBlock) (Kd.R_apart' (HO188.out) (Kd.S_typed HO_177002.out) (by decide)) (fun k_ hk => ⟨trivial, hk.2⟩))) (fun _ h_ => h_)))
            (case aB => exact (by repeat (first | (with_reducible first | exact HB.out | apply below_alloc | apply pw_below_drewN | apply below_drew1 | refine below_set ?_ GE176.out) | exact HB.out)))
            (case aF => exact (fun _ _ => trivial))
            (case aO => exact (by (with_reducible repeat (first | apply Kd.S_alloc | apply Kd.S_drewN | apply Kd.S_drew)); exact Kd.S_mono HO_177002.out (fun k_ hk => ⟨trivial, fun e_ => hk.2 e_⟩)))
            (case aS => exact (below_size (by repeat (first | (with_reducible first | exact HB.out | apply below_alloc | apply pw_below_drewN | apply below_drew1 | refine below_set ?_ GE176.out) | exact HB.out))))
            (case aL => have := LMc18.out; omega)
            intro v190 w24 ho hb hg hat
            rw [← Ny189.out] at ho
            have n0_ := Aside0.mk (Kd.R_after (ok := (fun k_ => some k_ ≠ (.slice Ao23 y186.length co23 : Value).ownBlock ∧ k_ ≠ gb176)) (by (with_reducible repeat (first | apply Kd.R_alloc | apply Kd.R_drewN | apply Kd.R_drew)); exact Kd.R_mono HO_3.out (fun _ hk => ⟨⟨hk.2, hk.1.2⟩, hk.1.1⟩)) hg hat)
            have n1_ := Aside0.mk (Kd.R_over' (by (with_reducible repeat (first | apply Kd.R_alloc | apply Kd.R_drewN | apply Kd.R_drew)); exact HO_6.out) (Kd.S_typed (by (with_reducible repeat (first | apply Kd.S_alloc | apply Kd.S_drewN | apply Kd.S_drew)); exact HO_177002.out)) (by decide) hg)
            have n2_ := Aside0.mk (blk_grown (g := gb176) (o := .cells #[.string ((rd_T71 t172 x4_1).f0), .slice none 0 0, u177002] 67 (0, 0)) (by (with_reducible repeat (first | refine blk_drewN ?_ _ | refine blk_drew ?_ | refine blk_alloc ?_ _)); exact BK176.out) hg (Kd.S_ne HO_177002.out BK176.out (by decide)))
            have n3_ := Aside0.mk (hb)
            have n4_ := Aside0.mk (ho)
            clear HO_3
            clear HO_6
            clear BK176
            clear HB
            clear HO_177002
            clear HO188
            have HO_3 := n0_
            have HO_6 := n1_
            have BK176 := n2_
            have HB := n3_
            have HO191 := n4_
            clear n0_ n1_ n2_ n3_ n4_
            clear ho hb hg hat
            obtain ⟨Ao25, co25, eo25⟩ := Kd.S_slice HO191.out
            (first | subst eo25 | (injection eo25 with f1_ f2_ f3_; have f4_ := f1_.symm; have f5_ := f3_.symm; clear f1_ f2_ f3_; subst f4_; subst f5_))
            refine hK.out _ _ ?_
            clear hK K
            refine norm_ (a' := ?_) ?_ ?_
            rotate_left
            ·show Act.put _ (some 46) _ = _
             simp only [Act.put, List.setIfInBounds_toArray, List.set_cons_zero, List.set_cons_succ, i64_w, i32_w]
             rfl
            refine pure_ (i := 16) (N := some 47) (v := ?_) (a' := ?_) #[true, true, true, true, true, true, true, true, true, true, true, true, true, true, true, true, true, false] rfl rfl (any_of HT_.out (by kernel_rfl)) (fun _ _ _ h => h) (Or.inl ⟨by rfl, ?_⟩) ?_ ?_
            rotate_left
            ·intro w'
             go_simp
             with_reducible rfl
            rotate_left
            ·simp only [Act.put, List.setIfInBounds_toArray, List.set_cons_zero, List.set_cons_succ, i64_w, i32_w]
             rfl
            refine last_ (i := 17) (N := none) #[true, true, true, true, true, true, true, true, true, true, true, true, true, true, true, true, true, true] rfl rfl (one_of HT_.out (by kernel_rfl)) (by decide) (fun K hK => ?_)
            have hs26 : w24.cell? ⟨gb176, 2, none⟩ = some (u177002) := (blk_cell BK176.out 2).trans rfl
            have hfs26 := blk_frozen BK176.out 2
            refine skip_ (w1 := ?_) (by rfl) rfl ?_ ?_
            rotate_left
            ·go_simp
             rfl
            refine hK.out _ _ ?_
            clear hK K
            refine done_ (done_of HT_.out (by kernel_rfl)) ?_
            try go_wp2
            go_roundg k2
            case measure => have := HK1.out; have := HK2.out; omega
            case rel => exact ⟨(wrap64 (x7_2 + 1)), (y189), (.slice Ao25 y189.length co25), orf, H', ⟨by have := HK1.out; have := HK2.out; omega⟩, ⟨by (with_reducible repeat (first | apply Kd.R_alloc | apply Kd.R_drewN | apply Kd.R_drew)); exact Kd.R_mono (Kd.R_far (p := ⟨gb176, 2, none⟩) (Kd.R_mono HO_3.out (fun k_ hk => (⟨hk, hk.1.2⟩ : _ ∧ k_ ≠ gb176))) (fun _ hk => hk.2) (.slice Ao25 y189.length co25)) (fun _ hk => ⟨hk.1.2, hk.1.1.2⟩)⟩, ⟨by (with_reducible repeat (first | apply Kd.R_alloc | apply Kd.R_drewN | apply Kd.R_drew)); exact Kd.R_mono (Kd.R_far (p := ⟨gb176, 2, none⟩) (Kd.R_types HO_6.out BK176.out (by decide)) (fun _ hk => hk.2) (.slice Ao25 y189.length co25)) (fun _ hk => trivial)⟩, ⟨by (with_reducible repeat (first | apply Kd.S_alloc | apply Kd.S_drewN | apply Kd.S_drew)); exact Kd.S_mono (Kd.S_far (p := ⟨gb176, 2, none⟩) (Kd.S_types HO191.out BK176.out (by decide)) (fun _ hk => hk.2) (.slice Ao25 y189.length co25)) (fun _ hk => trivial)⟩, ⟨by (with_reducible repeat (first | refine blk_drewN ?_ _ | refine blk_drew ?_ | refine blk_alloc ?_ _)); refine blk_put (cs := #[.string ((rd_T71 t172 x4_1).f0), .slice none 0 0, u177002]) ?_ 2 _ rfl; (with_reducible repeat (first | refine blk_drewN ?_ _ | refine blk_drew ?_ | refine blk_alloc ?_ _)); exact BK176.out⟩, ⟨by repeat (first | (with_reducible first | exact HB.out | apply below_alloc | apply pw_below_drewN | apply below_drew1 | refine below_set ?_ GE176.out) | exact HB.out)⟩⟩
           ·rw [if_neg c18] at H
            exact absurd H (by simp)
          ·rw [if_neg c17] at H
           exact absurd H (by simp)
         ·rw [if_neg c16] at H
          have c16b0 : decide (x7_2 < (t181.length : Int)) = false := decide_eq_false c16
          clear c16
          by_cases c27 : (t181.length : Int) > 0
          ·rw [if_pos c27] at H
           have c27b0 : decide (0 < (t181.length : Int)) = true := decide_eq_true c27
           have c27b1 : decide (0 < t181.length) = true := decide_eq_true (by omega)
           clear c27
           by_cases c28 : x3_1.length < 2199023255552
           ·rw [if_pos c28] at H
            have LMc28 := Aside0.mk c28
            clear c28
            obtain ⟨y192, hy192⟩ : ∃ y_ : List (S67), y_ = (x3_1 ++ [(⟨((rd_T71 t172 x4_1).f0), ([] : List ByteArray), x177002_2⟩ : S67)]) := ⟨_, rfl⟩
            replace H : (spec_ModelConf.l0 k2 l0 y192 (wrap64 (x4_1 + 1))) = some r := by first | (rw [hy192]; with_reducible exact H) | (have H2_ := (Option.bind_some _ _).symm.trans H; rw [hy192]; with_reducible exact H2_) | (have H2_ := (Option.bind_some _ _).symm.trans H; with_reducible exact H2_) | with_reducible exact H | (rw [hy192]; exact H) | exact H
            have Ny192 := Aside0.mk hy192
            clear hy192
            have H' := Aside0.mk H
            clear H
            obtain ⟨Ao29, co29, eo29⟩ := Kd.R_slice HO_6.out
            subst eo29
            have hcz30_0 : wr.cell? ⟨gb176, 0, none⟩ = some (.string ((rd_T71 t172 x4_1).f0)) := (blk_cell BK176.out 0).trans rfl
            have hcz30_1 : wr.cell? ⟨gb176, 1, none⟩ = some (.slice none 0 0) := (blk_cell BK176.out 1).trans rfl
            have hcz30_2 : wr.cell? ⟨gb176, 2, none⟩ = some (u177002) := (blk_cell BK176.out 2).trans rfl
            have hfz30_0 := blk_frozen BK176.out 0
            have hfz30_1 := blk_frozen BK176.out 1
            have hfz30_2 := blk_frozen BK176.out 2
            obtain ⟨Ao32, co32, eo32⟩ := Kd.S_slice HO_177002.out
            subst eo32
            go_wp2_with (first | ((with_reducible refine gate_builtin (b := .append) (xs := #[.tmp 51, .tmp 53]) rfl ?_); at_builtin; refine Kd.R_append k67 (w0 := w) w.heap.size rfl (.tmp 51) (.tmp 53) 32 67 (.agg #[(.string ⟨#[]⟩), (.slice none 0 0), (.slice none 0 0)]) 64 rfl Tryz.underlying32 info67 rfl (by decide) (by omega) u3 x3_1 (⟨((rd_T71 t172 x4_1).f0), ([] : List ByteArray), x177002_2⟩ : S67) [.string ((rd_T71 t172 x4_1).f0), .slice none 0 0, .slice Ao32 x177002_2.length co32] (fun k_ => k_ ≠ gb176) (fun k_ => ((fun k_ => k_ ≠ gb176)) k_ ∧ some k_ ≠ (u3 : Value).ownBlock) rfl rfl ?aP (fun _ hk => hk) ?aF ?aO ?aB ?aS ?aL ?_; (case aP => exact k67_mkM _ _ _ (⟨((rd_T71 t172 x4_1).f0), ([] : List ByteArray), x177002_2⟩ : S67) (Kd.R_nil _ _ _ _ _) (Kd.R_mono (Kd.R_types (Kd.R_apart' ((Kd.S_R HO_177002.out)) (Kd.R_typed HO_3.out) (by decide)) BK176.out (by decide)) (fun k_ hk => ⟨hk.2, hk.1.2⟩))); (case aB => exact (by repeat (first | (with_reducible first | exact HB.out | apply below_alloc | apply pw_below_drewN | apply below_drew1 | refine below_set ?_ GE176.out) | exact HB.out))); (case aF => exact (fun k_ hk => Kd.freshB (g := gb176) (o := .cells #[.string ((rd_T71 t172 x4_1).f0), .slice none 0 0, .slice Ao32 x177002_2.length co32] 67 (0, 0)) (by (with_reducible repeat (first | refine blk_drewN ?_ _ | refine blk_drew ?_ | refine blk_alloc ?_ _)); exact BK176.out) k_ hk)); (case aO => exact (by (with_reducible repeat (first | apply Kd.R_alloc | apply Kd.R_drewN | apply Kd.R_drew)); exact Kd.R_mono HO_3.out (fun _ hk => hk.2))); (case aS => exact (below_size (by repeat (first | (with_reducible first | exact HB.out | apply below_alloc | apply pw_below_drewN | apply below_drew1 | refine below_set ?_ GE176.out) | exact HB.out)))); (case aL => have := LMc28.out; omega); intro v193 w31 ho hb hg hat; rw [← Ny192.out] at ho; have n0_ := Aside0.mk (Kd.R_over' (by (with_reducible repeat (first | apply Kd.R_alloc | apply Kd.R_drewN | apply Kd.R_drew)); exact HO_6.out) (Kd.R_typed (by (with_reducible repeat (first | apply Kd.R_alloc | apply Kd.R_drewN | apply Kd.R_drew)); exact HO_3.out)) (by decide) hg); have n1_ := Aside0.mk (blk_grown (g := gb176) (o := .cells #[.string ((rd_T71 t172 x4_1).f0), .slice none 0 0, .slice Ao32 x177002_2.length co32] 67 (0, 0)) (by (with_reducible repeat (first | refine blk_drewN ?_ _ | refine blk_drew ?_ | refine blk_alloc ?_ _)); exact BK176.out) hg (Kd.R_away HO_3.out (fun _ hk => hk.2))); have n2_ := Aside0.mk (hb); have n3_ := Aside0.mk (ho); clear HO_6; clear BK176; clear HB; clear HO_3; clear HO_177002; have HO_6 := n0_; have BK176 := n1_; have HB := n2_; have HO194 := n3_; clear n0_ n1_ n2_ n3_; clear ho hb hg hat))
            go_roundg k2
            case measure => have := HK1.out; have := HK2.out; omega
            case rel => exact ⟨(y192), (wrap64 (x4_1 + 1)), orf, H', ⟨by have := HK1.out; have := HK2.out; omega⟩, ⟨by (with_reducible repeat (first | apply Kd.R_alloc | apply Kd.R_drewN | apply Kd.R_drew)); exact Kd.R_mono HO194.out (fun _ hk => trivial)⟩, ⟨by repeat (first | (with_reducible first | exact HB.out | apply below_alloc | apply pw_below_drewN | apply below_drew1 | refine below_set ?_ GE176.out) | exact HB.out)⟩⟩
           ·rw [if_neg c28] at H
            exact absurd H (by simp)
          ·rw [if_neg c27] at H
           have c27b0 : decide (0 < (t181.length : Int)) = false := decide_eq_false c27
           have c27b1 : decide (0 < t181.length) = false := decide_eq_false (by omega)
           clear c27
           have H' := Aside0.mk H
           clear H
           obtain ⟨Ao33, co33, eo33⟩ := Kd.R_slice HO_6.out
           subst eo33
           go_wp2
           go_roundg k2
           case measure => have := HK1.out; have := HK2.out; omega
           case rel => exact ⟨(x3_1), (wrap64 (x4_1 + 1)), orf, H', ⟨by have := HK1.out; have := HK2.out; omega⟩, ⟨by (with_reducible repeat (first | apply Kd.R_alloc | apply Kd.R_drewN | apply Kd.R_drew)); exact Kd.R_mono HO_3.out (fun _ hk => trivial)⟩, ⟨by repeat (first | (with_reducible first | exact HB.out | apply below_alloc | apply pw_below_drewN | apply below_drew1 | refine below_set ?_ GE176.out) | exact HB.out)⟩⟩
      ·rw [if_neg c7] at H
       exact absurd H (by simp)
     ·rw [if_neg c5] at H
      exact absurd H (by simp)
    ·rw [if_neg c4] at H
     exact absurd H (by simp)
   ·rw [if_neg c2] at H
    have c2b0 : decide (x4_1 < 5) = false := decide_eq_false c2
    clear c2
    obtain rfl := Option.some.inj H
    go_wp2
    go_ret
    exact ⟨_, by first | rfl | (simp [errW_none, errW_some] <;> rfl) | (simp [*, errW_none, errW_some] <;> rfl), by (with_reducible repeat (first | apply Kd.R_alloc | apply Kd.R_drewN | apply Kd.R_drew)); exact HO_3.out, by repeat (first | (with_reducible first | exact HB.out | apply below_alloc | apply pw_below_drewN | apply below_drew1) | exact HB.out)⟩

/-! ### spec_SameDefs: function 14 -/
mutual
def spec_SameDefs.l0 : Nat → List (S28) → List (S28) → Int → Option (Bool)
 | 0, _, _, _ => none
 | k + 1, x0, x1, x5 => if x5 < (x0.length : Int) then (spec_SameDefs.l1 k x0 x1 x5 0 0 0) else (some true)
def spec_SameDefs.l1 : Nat → List (S28) → List (S28) → Int → Int → Int → Int → Option (Bool)
 | 0, _, _, _, _, _, _ => none
 | k + 1, x0, x1, x5, x6, x7, x8 => if x8 < (x0.length : Int) then (if 0 ≤ x8 then (if 0 ≤ x5 then (if x5 < (x0.length : Int) then (if ((((rd_T28 x0 x8).f0).toList) == (((rd_T28 x0 x5).f0).toList) && ((((rd_T28 x0 x8).f1).toList) == (((rd_T28 x0 x5).f1).toList) && ((((rd_T28 x0 x8).f2).toList) == (((rd_T28 x0 x5).f2).toList)))) = true then (if x8 < (x1.length : Int) then (if ((((rd_T28 x1 x8).f0).toList) == (((rd_T28 x0 x5).f0).toList) && ((((rd_T28 x1 x8).f1).toList) == (((rd_T28 x0 x5).f1).toList) && ((((rd_T28 x1 x8).f2).toList) == (((rd_T28 x0 x5).f2).toList)))) = true then (spec_SameDefs.l1 k x0 x1 x5 (wrap64 (x6 + 1)) (wrap64 (x7 + 1)) (wrap64 (x8 + 1))) else (spec_SameDefs.l1 k x0 x1 x5 (wrap64 (x6 + 1)) x7 (wrap64 (x8 + 1)))) else (none)) else (if x8 < (x1.length : Int) then (if ((((rd_T28 x1 x8).f0).toList) == (((rd_T28 x0 x5).f0).toList) && ((((rd_T28 x1 x8).f1).toList) == (((rd_T28 x0 x5).f1).toList) && ((((rd_T28 x1 x8).f2).toList) == (((rd_T28 x0 x5).f2).toList)))) = true then (spec_SameDefs.l1 k x0 x1 x5 x6 (wrap64 (x7 + 1)) (wrap64 (x8 + 1))) else (spec_SameDefs.l1 k x0 x1 x5 x6 x7 (wrap64 (x8 + 1)))) else (none))) else (none)) else (none)) else (none)) else (if x6 = x7 then (spec_SameDefs.l0 k x0 x1 (wrap64 (x5 + 1))) else (some false))
end
def spec_SameDefs.f (k : Nat) (l0 : List (S28)) (l1 : List (S28)) : Option (Bool) := if (l0.length : Int) = (l1.length : Int) then (spec_SameDefs.l0 k l0 l1 0) else (some false)
theorem spec_SameDefs.mono_l : ∀ k, (∀ y0 y1 y2, LeO (spec_SameDefs.l0 k y0 y1 y2) (spec_SameDefs.l0 (k + 1) y0 y1 y2)) ∧ (∀ y0 y1 y2 y3 y4 y5, LeO (spec_SameDefs.l1 k y0 y1 y2 y3 y4 y5) (spec_SameDefs.l1 (k + 1) y0 y1 y2 y3 y4 y5))
 | 0 => ⟨fun _ _ _ r h => by simp [spec_SameDefs.l0] at h, fun _ _ _ _ _ _ r h => by simp [spec_SameDefs.l1] at h⟩
 | k + 1 => by
  obtain ⟨ih0, ih1⟩ := spec_SameDefs.mono_l k
  refine ⟨?_, ?_⟩
  ·intro y0 y1 y2
   unfold spec_SameDefs.l0
   repeat' first
   | (with_reducible exact ih0 _ _ _)
   | (with_reducible exact ih1 _ _ _ _ _ _)
   | (with_reducible exact LeO.refl _)
   | (with_reducible exact LeO.none _)
   | (with_reducible refine LeO.ite ?_ ?_)
   | (with_reducible refine LeO.bind ?_ (fun _ => ?_))
   | exact ih0 _ _ _
   | exact ih1 _ _ _ _ _ _
   | exact LeO.none _
   | refine LeO.ite ?_ ?_
   | refine LeO.bind ?_ (fun _ => ?_)
  ·intro y0 y1 y2 y3 y4 y5
   unfold spec_SameDefs.l1
   repeat' first
   | (with_reducible exact ih0 _ _ _)
   | (with_reducible exact ih1 _ _ _ _ _ _)
   | (with_reducible exact LeO.refl _)
   | (with_reducible exact LeO.none _)
   | (with_reducible refine LeO.ite ?_ ?_)
   | (with_reducible refine LeO.bind ?_ (fun _ => ?_))
   | exact ih0 _ _ _
   | exact ih1 _ _ _ _ _ _
   | exact LeO.none _
   | refine LeO.ite ?_ ?_
   | refine LeO.bind ?_ (fun _ => ?_)
theorem spec_SameDefs.mono : ∀ a0 a1 k, LeO (spec_SameDefs.f k a0 a1) (spec_SameDefs.f (k + 1) a0 a1) := by
 intro a0 a1 k
 obtain ⟨ih0, ih1⟩ := spec_SameDefs.mono_l k
 unfold spec_SameDefs.f
 repeat' first
   | (with_reducible exact ih0 _ _ _)
   | (with_reducible exact ih1 _ _ _ _ _ _)
   | (with_reducible exact LeO.refl _)
   | (with_reducible exact LeO.none _)
   | (with_reducible refine LeO.ite ?_ ?_)
   | (with_reducible refine LeO.bind ?_ (fun _ => ?_))
   | exact ih0 _ _ _
   | exact ih1 _ _ _ _ _ _
   | exact LeO.none _
   | refine LeO.ite ?_ ?_
   | refine LeO.bind ?_ (fun _ => ?_)
set_option maxHeartbeats 8000000 in
set_option maxRecDepth 100000 in
theorem spec_SameDefs.calls (k : Nat) (A0 : Option Addr) (c0 : Nat) (l0 : List (S28)) (A1 : Option Addr) (c1 : Nat) (l1 : List (S28)) (r : Bool) (w : World) (hr0 : Kd.C k28 w A0 l0.length l0) (hc0 : l0.length ≤ c0) (hr1 : Kd.C k28 w A1 l1.length l1) (hc1 : l1.length ≤ c1) (h : spec_SameDefs.f k l0 l1 = some r) :
  Calls Tryz.prog 14 #[.slice A0 l0.length c0, .slice A1 l1.length c1] w fun e w' => e = .returned (.bool r) ∧ Drawn0 w w' := by
 have hu28 := Tryz.underlying28
 have HR0 := Aside0.mk hr0
 have HC0 := Aside0.mk hc0
 clear hr0 hc0
 have HR1 := Aside0.mk hr1
 have HC1 := Aside0.mk hc1
 clear hr1 hc1
 have H : (if (l0.length : Int) = (l1.length : Int) then (spec_SameDefs.l0 k l0 l1 0) else (some false)) = some r := h
 clear h
 by_cases c3 : (l0.length : Int) = (l1.length : Int)
 ·rw [if_pos c3] at H
  have c3b0 : ((l0.length : Int) == (l1.length : Int)) = true := beq_iff_eq.mpr c3
  have c3b1 : ((l0.length : Int) != (l1.length : Int)) = false := bne_eq_false_iff_eq.mpr c3
  have c3b2 : (l0.length == l1.length) = true := by first | simpa using c3 | (simp at c3 ⊢; omega)
  clear c3
  have H' := Aside0.mk H
  clear H
  go_enter Tryz.func14, Tryz.ntmps14
  go_wp2
  repeat (go_quiet (fail); try go_wp2)
  go_loopg [5] k (fun kq v5 w' => ∃ (x5_1 : Int), v5 = .int .i64 x5_1 ∧ Aside0 (spec_SameDefs.l0 kq l0 l1 x5_1 = some r) ∧ Aside0 (kq ≤ k) ∧ Drawn0 w w')
  case atStart => exact ⟨(0), orf, H', ⟨Nat.le_refl _⟩, by repeat (first | exact Drawn0.refl _ | apply Drawn0.step)⟩
  case round =>
   clear H'
   try clear c1
   try clear p2
   try clear c3
   try clear c3b0
   try clear c3b1
   try clear c3b2
   obtain ⟨x5_1, rfl, HA, HK1, ⟨m1, rfl⟩⟩ := hrel
   cases gk with
   | zero => exact absurd HA.out (by simp [spec_SameDefs.l0])
   | succ k1 =>
    have H := HA.out
    clear HA
    simp only [spec_SameDefs.l0] at H
    by_cases c4 : x5_1 < (l0.length : Int)
    ·rw [if_pos c4] at H
     have c4b0 : decide (x5_1 < (l0.length : Int)) = true := decide_eq_true c4
     clear c4
     have H' := Aside0.mk H
     clear H
     go_wp2
     repeat (go_quiet (fail); try go_wp2)
     go_loopg [6, 7, 8] k1 (fun kq v6 v7 v8 w' => ∃ (x6_2 : Int) (x7_2 : Int) (x8_2 : Int), v6 = .int .i64 x6_2 ∧ v7 = .int .i64 x7_2 ∧ v8 = .int .i64 x8_2 ∧ Aside0 (spec_SameDefs.l1 kq l0 l1 x5_1 x6_2 x7_2 x8_2 = some r) ∧ Aside0 (kq ≤ k1) ∧ Drawn0 w w')
     case atStart => exact ⟨(0), (0), (0), orf, orf, orf, H', ⟨Nat.le_refl _⟩, by repeat (first | exact Drawn0.refl _ | apply Drawn0.step)⟩
     case round =>
      clear H'
      try clear c1
      try clear p2
      try clear c3
      try clear c3b0
      try clear c3b1
      try clear c3b2
      try clear c4
      try clear c4b0
      try clear p2
      obtain ⟨x6_2, x7_2, x8_2, rfl, rfl, rfl, HA, HK2, ⟨m2, rfl⟩⟩ := hrel
      cases gk with
      | zero => exact absurd HA.out (by simp [spec_SameDefs.l1])
      | succ k2 =>
       have H := HA.out
       clear HA
       simp only [spec_SameDefs.l1] at H
       by_cases c5 : x8_2 < (l0.length : Int)
       ·rw [if_pos c5] at H
        have c5b0 : decide (x8_2 < (l0.length : Int)) = true := decide_eq_true c5
        clear c5
        by_cases c6 : 0 ≤ x8_2
        ·rw [if_pos c6] at H
         have c6b0 : decide (0 ≤ x8_2) = true := decide_eq_true c6
         clear c6
         by_cases c7 : 0 ≤ x5_1
         ·rw [if_pos c7] at H
          have c7b0 : decide (0 ≤ x5_1) = true := decide_eq_true c7
          clear c7
          by_cases c8 : x5_1 < (l0.length : Int)
          ·rw [if_pos c8] at H
           have c8b0 : decide (x5_1 < (l0.length : Int)) = true := decide_eq_true c8
           clear c8
           by_cases c9 : ((((rd_T28 l0 x8_2).f0).toList) == (((rd_T28 l0 x5_1).f0).toList) && ((((rd_T28 l0 x8_2).f1).toList) == (((rd_T28 l0 x5_1).f1).toList) && ((((rd_T28 l0 x8_2).f2).toList) == (((rd_T28 l0 x5_1).f2).toList)))) = true
           ·rw [if_pos c9] at H
            have c9b0 : ((((rd_T28 l0 x8_2).f0).toList) == (((rd_T28 l0 x5_1).f0).toList) && ((((rd_T28 l0 x8_2).f1).toList) == (((rd_T28 l0 x5_1).f1).toList) && ((((rd_T28 l0 x8_2).f2).toList) == (((rd_T28 l0 x5_1).f2).toList)))) = true := c9
            (try (have c9b1 : decide ((((rd_T28 l0 x8_2).f0).toList) = (((rd_T28 l0 x5_1).f0).toList) && ((((rd_T28 l0 x8_2).f1).toList) == (((rd_T28 l0 x5_1).f1).toList) && ((((rd_T28 l0 x8_2).f2).toList) == (((rd_T28 l0 x5_1).f2).toList)))) = true := by simpa using c9))
            (try (have c9b2 : ((((rd_T28 l0 x8_2).f0).toList) == (((rd_T28 l0 x5_1).f0).toList) && ((((rd_T28 l0 x8_2).f1).toList) == (((rd_T28 l0 x5_1).f1).toList) && ((((rd_T28 l0 x8_2).f2).toList) == (((rd_T28 l0 x5_1).f2).toList)))) = true := by simpa using c9))
            clear c9
            by_cases c10 : x8_2 < (l1.length : Int)
            ·rw [if_pos c10] at H
             have c10b0 : decide (x8_2 < (l1.length : Int)) = true := decide_eq_true c10
             clear c10
             by_cases c11 : ((((rd_T28 l1 x8_2).f0).toList) == (((rd_T28 l0 x5_1).f0).toList) && ((((rd_T28 l1 x8_2).f1).toList) == (((rd_T28 l0 x5_1).f1).toList) && ((((rd_T28 l1 x8_2).f2).toList) == (((rd_T28 l0 x5_1).f2).toList)))) = true
             ·rw [if_pos c11] at H
              have c11b0 : ((((rd_T28 l1 x8_2).f0).toList) == (((rd_T28 l0 x5_1).f0).toList) && ((((rd_T28 l1 x8_2).f1).toList) == (((rd_T28 l0 x5_1).f1).toList) && ((((rd_T28 l1 x8_2).f2).toList) == (((rd_T28 l0 x5_1).f2).toList)))) = true := c11
              (try (have c11b1 : decide ((((rd_T28 l1 x8_2).f0).toList) = (((rd_T28 l0 x5_1).f0).toList) && ((((rd_T28 l1 x8_2).f1).toList) == (((rd_T28 l0 x5_1).f1).toList) && ((((rd_T28 l1 x8_2).f2).toList) == (((rd_T28 l0 x5_1).f2).toList)))) = true := by simpa using c11))
              (try (have c11b2 : ((((rd_T28 l1 x8_2).f0).toList) == (((rd_T28 l0 x5_1).f0).toList) && ((((rd_T28 l1 x8_2).f1).toList) == (((rd_T28 l0 x5_1).f1).toList) && ((((rd_T28 l1 x8_2).f2).toList) == (((rd_T28 l0 x5_1).f2).toList)))) = true := by simpa using c11))
              clear c11
              have H' := Aside0.mk H
              clear H
              have p195 : 0 ≤ (x8_2 : Int) := odt
              have q195 : x8_2 < (l0.length : Int) := odt
              obtain ⟨ad195, e195, hx195_0, hx195_1, hx195_2⟩ := at_T28 HR0.out x8_2 p195 q195
              cases e195
              replace p195 := eq_true p195
              replace q195 := eq_true q195
              have p196 : 0 ≤ (x5_1 : Int) := odt
              have q196 : x5_1 < (l0.length : Int) := odt
              obtain ⟨ad196, e196, hx196_0, hx196_1, hx196_2⟩ := at_T28 HR0.out x5_1 p196 q196
              obtain rfl : ad195 = ad196 := (by injection e196)
              replace p196 := eq_true p196
              replace q196 := eq_true q196
              have p197 : 0 ≤ (x8_2 : Int) := odt
              have q197 : x8_2 < (l1.length : Int) := odt
              obtain ⟨ad197, e197, hx197_0, hx197_1, hx197_2⟩ := at_T28 HR1.out x8_2 p197 q197
              cases e197
              replace p197 := eq_true p197
              replace q197 := eq_true q197
              have p198 : 0 ≤ (x5_1 : Int) := odt
              have q198 : x5_1 < (l0.length : Int) := odt
              obtain ⟨ad198, e198, hx198_0, hx198_1, hx198_2⟩ := at_T28 HR0.out x5_1 p198 q198
              obtain rfl : ad195 = ad198 := (by injection e198)
              replace p198 := eq_true p198
              replace q198 := eq_true q198
              go_wp2
              repeat (go_quiet (fail); try go_wp2)
              go_roundg k2
              case measure => have := HK1.out; have := HK2.out; omega
              case rel => exact ⟨(wrap64 (x6_2 + 1)), (wrap64 (x7_2 + 1)), (wrap64 (x8_2 + 1)), orf, orf, orf, H', ⟨by have := HK1.out; have := HK2.out; omega⟩, by repeat (first | exact Drawn0.refl _ | apply Drawn0.step)⟩
             ·rw [if_neg c11] at H
              have c11b0 : ((((rd_T28 l1 x8_2).f0).toList) == (((rd_T28 l0 x5_1).f0).toList) && ((((rd_T28 l1 x8_2).f1).toList) == (((rd_T28 l0 x5_1).f1).toList) && ((((rd_T28 l1 x8_2).f2).toList) == (((rd_T28 l0 x5_1).f2).toList)))) = false := by simpa using c11
              (try (have c11b1 : decide ((((rd_T28 l1 x8_2).f0).toList) = (((rd_T28 l0 x5_1).f0).toList) && ((((rd_T28 l1 x8_2).f1).toList) == (((rd_T28 l0 x5_1).f1).toList) && ((((rd_T28 l1 x8_2).f2).toList) == (((rd_T28 l0 x5_1).f2).toList)))) = false := by simpa using c11))
              (try (have c11b2 : ((((rd_T28 l1 x8_2).f0).toList) == (((rd_T28 l0 x5_1).f0).toList) && ((((rd_T28 l1 x8_2).f1).toList) == (((rd_T28 l0 x5_1).f1).toList) && ((((rd_T28 l1 x8_2).f2).toList) == (((rd_T28 l0 x5_1).f2).toList)))) = false := by simpa using c11))
              (try (have c11b3 : ¬ ((((rd_T28 l1 x8_2).f0).toList) = (((rd_T28 l0 x5_1).f0).toList) && ((((rd_T28 l1 x8_2).f1).toList) == (((rd_T28 l0 x5_1).f1).toList) && ((((rd_T28 l1 x8_2).f2).toList) == (((rd_T28 l0 x5_1).f2).toList)))) := by simpa using c11))
              clear c11
              have H' := Aside0.mk H
              clear H
              have p195 : 0 ≤ (x8_2 : Int) := odt
              have q195 : x8_2 < (l0.length : Int) := odt
              obtain ⟨ad195, e195, hx195_0, hx195_1, hx195_2⟩ := at_T28 HR0.out x8_2 p195 q195
              cases e195
              replace p195 := eq_true p195
              replace q195 := eq_true q195
              have p196 : 0 ≤ (x5_1 : Int) := odt
              have q196 : x5_1 < (l0.length : Int) := odt
              obtain ⟨ad196, e196, hx196_0, hx196_1, hx196_2⟩ := at_T28 HR0.out x5_1 p196 q196
              obtain rfl : ad195 = ad196 := (by injection e196)
              replace p196 := eq_true p196
              replace q196 := eq_true q196
              have p197 : 0 ≤ (x8_2 : Int) := odt
              have q197 : x8_2 < (l1.length : Int) := odt
              obtain ⟨ad197, e197, hx197_0, hx197_1, hx197_2⟩ := at_T28 HR1.out x8_2 p197 q197
              cases e197
              replace p197 := eq_true p197
              replace q197 := eq_true q197
              have p198 : 0 ≤ (x5_1 : Int) := odt
              have q198 : x5_1 < (l0.length : Int) := odt
              obtain ⟨ad198, e198, hx198_0, hx198_1, hx198_2⟩ := at_T28 HR0.out x5_1 p198 q198
              obtain rfl : ad195 = ad198 := (by injection e198)
              replace p198 := eq_true p198
              replace q198 := eq_true q198
              go_wp2
              repeat (go_quiet (fail); try go_wp2)
              go_roundg k2
              case measure => have := HK1.out; have := HK2.out; omega
              case rel => exact ⟨(wrap64 (x6_2 + 1)), (x7_2), (wrap64 (x8_2 + 1)), orf, orf, orf, H', ⟨by have := HK1.out; have := HK2.out; omega⟩, by repeat (first | exact Drawn0.refl _ | apply Drawn0.step)⟩
            ·rw [if_neg c10] at H
             exact absurd H (by simp)
           ·rw [if_neg c9] at H
            have c9b0 : ((((rd_T28 l0 x8_2).f0).toList) == (((rd_T28 l0 x5_1).f0).toList) && ((((rd_T28 l0 x8_2).f1).toList) == (((rd_T28 l0 x5_1).f1).toList) && ((((rd_T28 l0 x8_2).f2).toList) == (((rd_T28 l0 x5_1).f2).toList)))) = false := by simpa using c9
            (try (have c9b1 : decide ((((rd_T28 l0 x8_2).f0).toList) = (((rd_T28 l0 x5_1).f0).toList) && ((((rd_T28 l0 x8_2).f1).toList) == (((rd_T28 l0 x5_1).f1).toList) && ((((rd_T28 l0 x8_2).f2).toList) == (((rd_T28 l0 x5_1).f2).toList)))) = false := by simpa using c9))
            (try (have c9b2 : ((((rd_T28 l0 x8_2).f0).toList) == (((rd_T28 l0 x5_1).f0).toList) && ((((rd_T28 l0 x8_2).f1).toList) == (((rd_T28 l0 x5_1).f1).toList) && ((((rd_T28 l0 x8_2).f2).toList) == (((rd_T28 l0 x5_1).f2).toList)))) = false := by simpa using c9))
            (try (have c9b3 : ¬ ((((rd_T28 l0 x8_2).f0).toList) = (((rd_T28 l0 x5_1).f0).toList) && ((((rd_T28 l0 x8_2).f1).toList) == (((rd_T28 l0 x5_1).f1).toList) && ((((rd_T28 l0 x8_2).f2).toList) == (((rd_T28 l0 x5_1).f2).toList)))) := by simpa using c9))
            clear c9
            by_cases c12 : x8_2 < (l1.length : Int)
            ·rw [if_pos c12] at H
             have c12b0 : decide (x8_2 < (l1.length : Int)) = true := decide_eq_true c12
             clear c12
             by_cases c13 : ((((rd_T28 l1 x8_2).f0).toList) == (((rd_T28 l0 x5_1).f0).toList) && ((((rd_T28 l1 x8_2).f1).toList) == (((rd_T28 l0 x5_1).f1).toList) && ((((rd_T28 l1 x8_2).f2).toList) == (((rd_T28 l0 x5_1).f2).toList)))) = true
             ·rw [if_pos c13] at H
              have c13b0 : ((((rd_T28 l1 x8_2).f0).toList) == (((rd_T28 l0 x5_1).f0).toList) && ((((rd_T28 l1 x8_2).f1).toList) == (((rd_T28 l0 x5_1).f1).toList) && ((((rd_T28 l1 x8_2).f2).toList) == (((rd_T28 l0 x5_1).f2).toList)))) = true := c13
              (try (have c13b1 : decide ((((rd_T28 l1 x8_2).f0).toList) = (((rd_T28 l0 x5_1).f0).toList) && ((((rd_T28 l1 x8_2).f1).toList) == (((rd_T28 l0 x5_1).f1).toList) && ((((rd_T28 l1 x8_2).f2).toList) == (((rd_T28 l0 x5_1).f2).toList)))) = true := by simpa using c13))
              (try (have c13b2 : ((((rd_T28 l1 x8_2).f0).toList) == (((rd_T28 l0 x5_1).f0).toList) && ((((rd_T28 l1 x8_2).f1).toList) == (((rd_T28 l0 x5_1).f1).toList) && ((((rd_T28 l1 x8_2).f2).toList) == (((rd_T28 l0 x5_1).f2).toList)))) = true := by simpa using c13))
              clear c13
              have H' := Aside0.mk H
              clear H
              have p195 : 0 ≤ (x8_2 : Int) := odt
              have q195 : x8_2 < (l0.length : Int) := odt
              obtain ⟨ad195, e195, hx195_0, hx195_1, hx195_2⟩ := at_T28 HR0.out x8_2 p195 q195
              cases e195
              replace p195 := eq_true p195
              replace q195 := eq_true q195
              have p196 : 0 ≤ (x5_1 : Int) := odt
              have q196 : x5_1 < (l0.length : Int) := odt
              obtain ⟨ad196, e196, hx196_0, hx196_1, hx196_2⟩ := at_T28 HR0.out x5_1 p196 q196
              obtain rfl : ad195 = ad196 := (by injection e196)
              replace p196 := eq_true p196
              replace q196 := eq_true q196
              have p199 : 0 ≤ (x8_2 : Int) := odt
              have q199 : x8_2 < (l1.length : Int) := odt
              obtain ⟨ad199, e199, hx199_0, hx199_1, hx199_2⟩ := at_T28 HR1.out x8_2 p199 q199
              cases e199
              replace p199 := eq_true p199
              replace q199 := eq_true q199
              have p200 : 0 ≤ (x5_1 : Int) := odt
              have q200 : x5_1 < (l0.length : Int) := odt
              obtain ⟨ad200, e200, hx200_0, hx200_1, hx200_2⟩ := at_T28 HR0.out x5_1 p200 q200
              obtain rfl : ad195 = ad200 := (by injection e200)
              replace p200 := eq_true p200
              replace q200 := eq_true q200
              go_wp2
              repeat (go_quiet (fail); try go_wp2)
              go_roundg k2
              case measure => have := HK1.out; have := HK2.out; omega
              case rel => exact ⟨(x6_2), (wrap64 (x7_2 + 1)), (wrap64 (x8_2 + 1)), orf, orf, orf, H', ⟨by have := HK1.out; have := HK2.out; omega⟩, by repeat (first | exact Drawn0.refl _ | apply Drawn0.step)⟩
             ·rw [if_neg c13] at H
              have c13b0 : ((((rd_T28 l1 x8_2).f0).toList) == (((rd_T28 l0 x5_1).f0).toList) && ((((rd_T28 l1 x8_2).f1).toList) == (((rd_T28 l0 x5_1).f1).toList) && ((((rd_T28 l1 x8_2).f2).toList) == (((rd_T28 l0 x5_1).f2).toList)))) = false := by simpa using c13
              (try (have c13b1 : decide ((((rd_T28 l1 x8_2).f0).toList) = (((rd_T28 l0 x5_1).f0).toList) && ((((rd_T28 l1 x8_2).f1).toList) == (((rd_T28 l0 x5_1).f1).toList) && ((((rd_T28 l1 x8_2).f2).toList) == (((rd_T28 l0 x5_1).f2).toList)))) = false := by simpa using c13))
              (try (have c13b2 : ((((rd_T28 l1 x8_2).f0).toList) == (((rd_T28 l0 x5_1).f0).toList) && ((((rd_T28 l1 x8_2).f1).toList) == (((rd_T28 l0 x5_1).f1).toList) && ((((rd_T28 l1 x8_2).f2).toList) == (((rd_T28 l0 x5_1).f2).toList)))) = false := by simpa using c13))
              (try (have c13b3 : ¬ ((((rd_T28 l1 x8_2).f0).toList) = (((rd_T28 l0 x5_1).f0).toList) && ((((rd_T28 l1 x8_2).f1).toList) == (((rd_T28 l0 x5_1).f1).toList) && ((((rd_T28 l1 x8_2).f2).toList) == (((rd_T28 l0 x5_1).f2).toList)))) := by simpa using c13))
              clear c13
              have H' := Aside0.mk H
              clear H
              have p195 : 0 ≤ (x8_2 : Int) := odt
              have q195 : x8_2 < (l0.length : Int) := odt
              obtain ⟨ad195, e195, hx195_0, hx195_1, hx195_2⟩ := at_T28 HR0.out x8_2 p195 q195
              cases e195
              replace p195 := eq_true p195
              replace q195 := eq_true q195
              have p196 : 0 ≤ (x5_1 : Int) := odt
              have q196 : x5_1 < (l0.length : Int) := odt
              obtain ⟨ad196, e196, hx196_0, hx196_1, hx196_2⟩ := at_T28 HR0.out x5_1 p196 q196
              obtain rfl : ad195 = ad196 := (by injection e196)
              replace p196 := eq_true p196
              replace q196 := eq_true q196
              have p199 : 0 ≤ (x8_2 : Int) := odt
              have q199 : x8_2 < (l1.length : Int) := odt
              obtain ⟨ad199, e199, hx199_0, hx199_1, hx199_2⟩ := at_T28 HR1.out x8_2 p199 q199
              cases e199
              replace p199 := eq_true p199
              replace q199 := eq_true q199
              have p200 : 0 ≤ (x5_1 : Int) := odt
              have q200 : x5_1 < (l0.length : Int) := odt
              obtain ⟨ad200, e200, hx200_0, hx200_1, hx200_2⟩ := at_T28 HR0.out x5_1 p200 q200
              obtain rfl : ad195 = ad200 := (by injection e200)
              replace p200 := eq_true p200
              replace q200 := eq_true q200
              go_wp2
              repeat (go_quiet (fail); try go_wp2)
              go_roundg k2
              case measure => have := HK1.out; have := HK2.out; omega
              case rel => exact ⟨(x6_2), (x7_2), (wrap64 (x8_2 + 1)), orf, orf, orf, H', ⟨by have := HK1.out; have := HK2.out; omega⟩, by repeat (first | exact Drawn0.refl _ | apply Drawn0.step)⟩
            ·rw [if_neg c12] at H
             exact absurd H (by simp)
          ·rw [if_neg c8] at H
           exact absurd H (by simp)
         ·rw [if_neg c7] at H
          exact absurd H (by simp)
        ·rw [if_neg c6] at H
         exact absurd H (by simp)
       ·rw [if_neg c5] at H
        have c5b0 : decide (x8_2 < (l0.length : Int)) = false := decide_eq_false c5
        clear c5
        by_cases c14 : x6_2 = x7_2
        ·rw [if_pos c14] at H
         have c14b0 : (x6_2 == x7_2) = true := beq_iff_eq.mpr c14
         have c14b1 : (x6_2 != x7_2) = false := bne_eq_false_iff_eq.mpr c14
         clear c14
         have H' := Aside0.mk H
         clear H
         go_wp2
         repeat (go_quiet (fail); try go_wp2)
         go_roundg k2
         case measure => have := HK1.out; have := HK2.out; omega
         case rel => exact ⟨(wrap64 (x5_1 + 1)), orf, H', ⟨by have := HK1.out; have := HK2.out; omega⟩, by repeat (first | exact Drawn0.refl _ | apply Drawn0.step)⟩
        ·rw [if_neg c14] at H
         have c14b0 : (x6_2 == x7_2) = false := beq_eq_false_iff_ne.mpr c14
         have c14b1 : (x6_2 != x7_2) = true := bne_iff_ne.mpr c14
         obtain rfl := Option.some.inj H
         go_wp2
         repeat (go_quiet (fail); try go_wp2)
         go_ret
         exact ⟨by first | rfl | (simp; done) | (simp [*]; done), by repeat (first | exact Drawn0.refl _ | apply Drawn0.step)⟩
    ·rw [if_neg c4] at H
     have c4b0 : decide (x5_1 < (l0.length : Int)) = false := decide_eq_false c4
     clear c4
     obtain rfl := Option.some.inj H
     go_wp2
     repeat (go_quiet (fail); try go_wp2)
     go_ret
     exact ⟨by first | rfl | (simp; done) | (simp [*]; done), by repeat (first | exact Drawn0.refl _ | apply Drawn0.step)⟩
 ·rw [if_neg c3] at H
  have c3b0 : ((l0.length : Int) == (l1.length : Int)) = false := beq_eq_false_iff_ne.mpr c3
  have c3b1 : ((l0.length : Int) != (l1.length : Int)) = true := bne_iff_ne.mpr c3
  have c3b2 : (l0.length == l1.length) = false := by first | simpa using c3 | (simp at c3 ⊢; omega)
  obtain rfl := Option.some.inj H
  go_enter Tryz.func14, Tryz.ntmps14
  go_wp2
  repeat (go_quiet (fail); try go_wp2)
  go_ret
  exact ⟨by first | rfl | (simp; done) | (simp [*]; done), by repeat (first | exact Drawn0.refl _ | apply Drawn0.step)⟩

end Go.Proofs.YtjglpjlbnmpdfaaGreatDoor.PFnModelDefs
