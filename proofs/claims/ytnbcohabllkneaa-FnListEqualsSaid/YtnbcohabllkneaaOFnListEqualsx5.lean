/- The machine side of laws.FnListEquals: each function of this text answers what its Lean function answers (written for this claim by a program of this session over the kit's print; no condition beyond what each theorem says). -/
import Derived.Test.YtnbcohabllkneaaOFnListEqualsx0
import Derived.Test.YtnbcohabllkneaaOFnListEqualsx1
import Derived.Test.YtnbcohabllkneaaOFnListEqualsx3
import Derived.Test.YtnbcohabllkneaaOFnListEqualsx4
namespace Go.Proofs.Ytnbcohabllkneaa.PFnListEquals
open Go.RowKit Go.Proofs.YtnbcohabllkneaaW.PrintWords Go.Proofs.YtnbcohabllkneaaW.PrintLast Go.Proofs.YtnbcohabllkneaaW.PrintMore
attribute [local go_sem] max2_int min2_int max_two min_two max_three min_three max_four min_four   -- for this text's walks alone
set_option linter.unusedVariables false
set_option linter.unusedSimpArgs false

/-! ### laws_FnListEquals: function 3 -/
mutual
def laws_FnListEquals.j0 : Nat → List ByteArray → List ByteArray → List (List ByteArray) → List (List ByteArray) → Bool → Option (Bool)
  | 0, _, _, _, _, _ => none
  | k + 1, x0, x1, x2, x3, x26 => if x26 = true then (some true) else ((laws_texts.f x0).bind fun t153 => (if t153 = true then ((laws_texts.f x1).bind fun t154 => (if t154 = true then ((laws_rows.f k x2).bind fun t155 => (if t155 = true then ((laws_rows.f k x3).bind fun t156 => (laws_FnListEquals.j1 k x0 x1 x2 x3 (!t156))) else (laws_FnListEquals.j1 k x0 x1 x2 x3 true))) else (laws_FnListEquals.j1 k x0 x1 x2 x3 true))) else (laws_FnListEquals.j1 k x0 x1 x2 x3 true)))
def laws_FnListEquals.j1 : Nat → List ByteArray → List ByteArray → List (List ByteArray) → List (List ByteArray) → Bool → Option (Bool)
  | 0, _, _, _, _, _ => none
  | k + 1, x0, x1, x2, x3, x44 => if x44 = true then ((laws_awakeUtil.f k).bind fun t157 => (some t157)) else ((laws_copied.f x0).bind fun t158 => ((laws_copied.f x1).bind fun t161 => ((impl_ArrayEquals.f k t158 t161).bind fun t164 => ((spec_SameList.f k x0 x1).bind fun t165 => (if (t164 == t165) = true then ((laws_copiedRows.f k x2).bind fun t166 => ((laws_copiedRows.f k x3).bind fun t169 => ((impl_Array2DEquals.f k t166 t169).bind fun t172 => ((spec_SameRows.f k x2 x3).bind fun t173 => (if (t172 == t173) = true then ((laws_awakeUtil.f k).bind fun t174 => (some t174)) else (some false)))))) else (some false))))))
end
def laws_FnListEquals.f (k : Nat) (l0 : List ByteArray) (l1 : List ByteArray) (l2 : List (List ByteArray)) (l3 : List (List ByteArray)) : Option (Bool) := (laws_zzFits10.f k l0).bind fun t149 => (if t149 = true then ((laws_zzFits10.f k l1).bind fun t150 => (if t150 = true then ((laws_zzFits11.f k l2).bind fun t151 => (if t151 = true then ((laws_zzFits11.f k l3).bind fun t152 => (laws_FnListEquals.j0 k l0 l1 l2 l3 (!t152))) else (laws_FnListEquals.j0 k l0 l1 l2 l3 true))) else (laws_FnListEquals.j0 k l0 l1 l2 l3 true))) else (laws_FnListEquals.j0 k l0 l1 l2 l3 true))
theorem laws_FnListEquals.mono_l : ∀ k, (∀ y0 y1 y2 y3 y4, LeO (laws_FnListEquals.j0 k y0 y1 y2 y3 y4) (laws_FnListEquals.j0 (k + 1) y0 y1 y2 y3 y4)) ∧ (∀ y0 y1 y2 y3 y4, LeO (laws_FnListEquals.j1 k y0 y1 y2 y3 y4) (laws_FnListEquals.j1 (k + 1) y0 y1 y2 y3 y4))
  | 0 => ⟨fun _ _ _ _ _ r h => by simp [laws_FnListEquals.j0] at h, fun _ _ _ _ _ r h => by simp [laws_FnListEquals.j1] at h⟩
  | k + 1 => by
    obtain ⟨ih0, ih1⟩ := laws_FnListEquals.mono_l k
    refine ⟨?_, ?_⟩
    · intro y0 y1 y2 y3 y4
      unfold laws_FnListEquals.j0
      repeat' first
      | (with_reducible exact ih0 _ _ _ _ _)
      | (with_reducible exact ih1 _ _ _ _ _)
      | (with_reducible exact impl_Array2DEquals.mono _ _ _)
      | (with_reducible exact impl_ArrayEquals.mono _ _ _)
      | (with_reducible exact laws_awakeUtil.mono _)
      | (with_reducible exact laws_copiedRows.mono _ _)
      | (with_reducible exact laws_rows.mono _ _)
      | (with_reducible exact laws_zzFits10.mono _ _)
      | (with_reducible exact laws_zzFits11.mono _ _)
      | (with_reducible exact spec_SameList.mono _ _ _)
      | (with_reducible exact spec_SameRows.mono _ _ _)
      | (with_reducible exact LeO.refl _)
      | (with_reducible exact LeO.none _)
      | (with_reducible refine LeO.ite ?_ ?_)
      | (with_reducible refine LeO.bind ?_ (fun _ => ?_))
      | exact ih0 _ _ _ _ _
      | exact ih1 _ _ _ _ _
      | exact impl_Array2DEquals.mono _ _ _
      | exact impl_ArrayEquals.mono _ _ _
      | exact laws_awakeUtil.mono _
      | exact laws_copiedRows.mono _ _
      | exact laws_rows.mono _ _
      | exact laws_zzFits10.mono _ _
      | exact laws_zzFits11.mono _ _
      | exact spec_SameList.mono _ _ _
      | exact spec_SameRows.mono _ _ _
      | exact LeO.none _
      | refine LeO.ite ?_ ?_
      | refine LeO.bind ?_ (fun _ => ?_)
    · intro y0 y1 y2 y3 y4
      unfold laws_FnListEquals.j1
      repeat' first
      | (with_reducible exact ih0 _ _ _ _ _)
      | (with_reducible exact ih1 _ _ _ _ _)
      | (with_reducible exact impl_Array2DEquals.mono _ _ _)
      | (with_reducible exact impl_ArrayEquals.mono _ _ _)
      | (with_reducible exact laws_awakeUtil.mono _)
      | (with_reducible exact laws_copiedRows.mono _ _)
      | (with_reducible exact laws_rows.mono _ _)
      | (with_reducible exact laws_zzFits10.mono _ _)
      | (with_reducible exact laws_zzFits11.mono _ _)
      | (with_reducible exact spec_SameList.mono _ _ _)
      | (with_reducible exact spec_SameRows.mono _ _ _)
      | (with_reducible exact LeO.refl _)
      | (with_reducible exact LeO.none _)
      | (with_reducible refine LeO.ite ?_ ?_)
      | (with_reducible refine LeO.bind ?_ (fun _ => ?_))
      | exact ih0 _ _ _ _ _
      | exact ih1 _ _ _ _ _
      | exact impl_Array2DEquals.mono _ _ _
      | exact impl_ArrayEquals.mono _ _ _
      | exact laws_awakeUtil.mono _
      | exact laws_copiedRows.mono _ _
      | exact laws_rows.mono _ _
      | exact laws_zzFits10.mono _ _
      | exact laws_zzFits11.mono _ _
      | exact spec_SameList.mono _ _ _
      | exact spec_SameRows.mono _ _ _
      | exact LeO.none _
      | refine LeO.ite ?_ ?_
      | refine LeO.bind ?_ (fun _ => ?_)
theorem laws_FnListEquals.mono : ∀ a0 a1 a2 a3 k, LeO (laws_FnListEquals.f k a0 a1 a2 a3) (laws_FnListEquals.f (k + 1) a0 a1 a2 a3) := by
  intro a0 a1 a2 a3 k
  obtain ⟨ih0, ih1⟩ := laws_FnListEquals.mono_l k
  unfold laws_FnListEquals.f
  repeat' first
      | (with_reducible exact ih0 _ _ _ _ _)
      | (with_reducible exact ih1 _ _ _ _ _)
      | (with_reducible exact impl_Array2DEquals.mono _ _ _)
      | (with_reducible exact impl_ArrayEquals.mono _ _ _)
      | (with_reducible exact laws_awakeUtil.mono _)
      | (with_reducible exact laws_copiedRows.mono _ _)
      | (with_reducible exact laws_rows.mono _ _)
      | (with_reducible exact laws_zzFits10.mono _ _)
      | (with_reducible exact laws_zzFits11.mono _ _)
      | (with_reducible exact spec_SameList.mono _ _ _)
      | (with_reducible exact spec_SameRows.mono _ _ _)
      | (with_reducible exact LeO.refl _)
      | (with_reducible exact LeO.none _)
      | (with_reducible refine LeO.ite ?_ ?_)
      | (with_reducible refine LeO.bind ?_ (fun _ => ?_))
      | exact ih0 _ _ _ _ _
      | exact ih1 _ _ _ _ _
      | exact impl_Array2DEquals.mono _ _ _
      | exact impl_ArrayEquals.mono _ _ _
      | exact laws_awakeUtil.mono _
      | exact laws_copiedRows.mono _ _
      | exact laws_rows.mono _ _
      | exact laws_zzFits10.mono _ _
      | exact laws_zzFits11.mono _ _
      | exact spec_SameList.mono _ _ _
      | exact spec_SameRows.mono _ _ _
      | exact LeO.none _
      | refine LeO.ite ?_ ?_
      | refine LeO.bind ?_ (fun _ => ?_)
set_option maxHeartbeats 8000000 in
set_option maxRecDepth 100000 in
theorem laws_FnListEquals.calls (k : Nat) (A0 : Option Addr) (c0 : Nat) (l0 : List ByteArray) (A1 : Option Addr) (c1 : Nat) (l1 : List ByteArray) (A2 : Option Addr) (c2 : Nat) (l2 : List (List ByteArray)) (A3 : Option Addr) (c3 : Nat) (l3 : List (List ByteArray)) (r : Bool) (w : World) (hr0 : Kd.C Kd.string w A0 l0.length l0) (hc0 : l0.length ≤ c0) (hr1 : Kd.C Kd.string w A1 l1.length l1) (hc1 : l1.length ≤ c1) (hr2 : Kd.C (Kd.slice 9 Kd.string) w A2 l2.length l2) (hc2 : l2.length ≤ c2) (hr3 : Kd.C (Kd.slice 9 Kd.string) w A3 l3.length l3) (hc3 : l3.length ≤ c3) (h : laws_FnListEquals.f k l0 l1 l2 l3 = some r) :
    Calls Try.prog 3 #[.slice A0 l0.length c0, .slice A1 l1.length c1, .slice A2 l2.length c2, .slice A3 l3.length c3] w fun e w' => e = .returned (.bool r) ∧ Below w.heap.size w w' := by
  have HR0 := Aside0.mk hr0
  have HC0 := Aside0.mk hc0
  clear hr0 hc0
  have HR1 := Aside0.mk hr1
  have HC1 := Aside0.mk hc1
  clear hr1 hc1
  have HR2 := Aside0.mk hr2
  have HC2 := Aside0.mk hc2
  clear hr2 hc2
  have HR3 := Aside0.mk hr3
  have HC3 := Aside0.mk hc3
  clear hr3 hc3
  have HB := Aside0.mk (Below.refl w.heap.size w)
  have H : ((laws_zzFits10.f k l0).bind fun t149 => (if t149 = true then ((laws_zzFits10.f k l1).bind fun t150 => (if t150 = true then ((laws_zzFits11.f k l2).bind fun t151 => (if t151 = true then ((laws_zzFits11.f k l3).bind fun t152 => (laws_FnListEquals.j0 k l0 l1 l2 l3 (!t152))) else (laws_FnListEquals.j0 k l0 l1 l2 l3 true))) else (laws_FnListEquals.j0 k l0 l1 l2 l3 true))) else (laws_FnListEquals.j0 k l0 l1 l2 l3 true))) = some r := h
  clear h
  have HC5 := Aside0.mk H
  clear H
  go_enter Try.func3, Try.ntmps3
  go_upto_region 1 with (fail)
  go_cut [26] (fun v26 wc => ∃ (kq : Nat) (x26_4 : Bool), v26 = .bool x26_4 ∧ Aside0 (laws_FnListEquals.j0 kq l0 l1 l2 l3 x26_4 = some r) ∧ Aside0 (kq ≤ k) ∧ Aside0 (Below w.heap.size w wc))
  case first =>
    have H := HC5.out
    clear HC5
    replace H := Option.bind_eq_some_iff.mp H
    obtain ⟨t149, A60, H⟩ := H
    replace H : (if t149 = true then ((laws_zzFits10.f k l1).bind fun t150 => (if t150 = true then ((laws_zzFits11.f k l2).bind fun t151 => (if t151 = true then ((laws_zzFits11.f k l3).bind fun t152 => (laws_FnListEquals.j0 k l0 l1 l2 l3 (!t152))) else (laws_FnListEquals.j0 k l0 l1 l2 l3 true))) else (laws_FnListEquals.j0 k l0 l1 l2 l3 true))) else (laws_FnListEquals.j0 k l0 l1 l2 l3 true)) = some r := H
    have A6 := Aside0.mk A60
    clear A60
    by_cases c7 : t149 = true
    · subst c7
      have H1 : ((laws_zzFits10.f k l1).bind fun t150 => (if t150 = true then ((laws_zzFits11.f k l2).bind fun t151 => (if t151 = true then ((laws_zzFits11.f k l3).bind fun t152 => (laws_FnListEquals.j0 k l0 l1 l2 l3 (!t152))) else (laws_FnListEquals.j0 k l0 l1 l2 l3 true))) else (laws_FnListEquals.j0 k l0 l1 l2 l3 true))) = some r := by rw [if_pos rfl] at H; exact H
      clear H
      have H := H1
      clear H1
      replace H := Option.bind_eq_some_iff.mp H
      obtain ⟨t150, A80, H⟩ := H
      replace H : (if t150 = true then ((laws_zzFits11.f k l2).bind fun t151 => (if t151 = true then ((laws_zzFits11.f k l3).bind fun t152 => (laws_FnListEquals.j0 k l0 l1 l2 l3 (!t152))) else (laws_FnListEquals.j0 k l0 l1 l2 l3 true))) else (laws_FnListEquals.j0 k l0 l1 l2 l3 true)) = some r := H
      have A8 := Aside0.mk A80
      clear A80
      by_cases c9 : t150 = true
      · subst c9
        have H1 : ((laws_zzFits11.f k l2).bind fun t151 => (if t151 = true then ((laws_zzFits11.f k l3).bind fun t152 => (laws_FnListEquals.j0 k l0 l1 l2 l3 (!t152))) else (laws_FnListEquals.j0 k l0 l1 l2 l3 true))) = some r := by rw [if_pos rfl] at H; exact H
        clear H
        have H := H1
        clear H1
        replace H := Option.bind_eq_some_iff.mp H
        obtain ⟨t151, A100, H⟩ := H
        replace H : (if t151 = true then ((laws_zzFits11.f k l3).bind fun t152 => (laws_FnListEquals.j0 k l0 l1 l2 l3 (!t152))) else (laws_FnListEquals.j0 k l0 l1 l2 l3 true)) = some r := H
        have A10 := Aside0.mk A100
        clear A100
        by_cases c11 : t151 = true
        · subst c11
          have H1 : ((laws_zzFits11.f k l3).bind fun t152 => (laws_FnListEquals.j0 k l0 l1 l2 l3 (!t152))) = some r := by rw [if_pos rfl] at H; exact H
          clear H
          have H := H1
          clear H1
          replace H := Option.bind_eq_some_iff.mp H
          obtain ⟨t152, A120, H⟩ := H
          replace H : (laws_FnListEquals.j0 k l0 l1 l2 l3 (!t152)) = some r := H
          have A12 := Aside0.mk A120
          clear A120
          have H' := Aside0.mk H
          clear H
          go_wp2_with (first | ((with_reducible refine gate_callee (f := 10) rfl ?_); refine goesL_ (some 10) rfl rfl Try.func10 (by kernel_rfl) rfl #[.slice A0 l0.length c0] rfl (by (try simp only [List.map_toArray, List.map_cons, List.map_nil]); first | done | rfl | (simp only [List.length_drop, List.length_take]; rfl)) ?_; (with_reducible refine (laws_zzFits10.calls k _ _ l0 true _ ?side1 ?side2 A6.out).mono ?_); (case side1 => repeat (first | exact (Kd.C_below HR0.out HB.out) | (with_reducible refine Kd.C_alloc ?_ _) | (with_reducible refine Kd.C_drewN ?_ _) | (with_reducible refine Kd.C_drew ?_))); (case side2 => exact HC0.out); rintro e w' ⟨rfl, ⟨nd, rfl⟩⟩; refine ⟨_, rfl, ?_⟩) | (go_at_call 10; (with_reducible refine (laws_zzFits10.calls k _ _ l1 true _ ?side1 ?side2 A8.out).mono ?_); (case side1 => repeat (first | exact (Kd.C_below HR1.out (by repeat (first | (with_reducible first | exact HB.out | apply below_alloc | apply pw_below_drewN | apply below_drew1) | exact HB.out))) | (with_reducible refine Kd.C_alloc ?_ _) | (with_reducible refine Kd.C_drewN ?_ _) | (with_reducible refine Kd.C_drew ?_))); (case side2 => exact HC1.out); rintro e w' ⟨rfl, ⟨nd, rfl⟩⟩) | (go_at_call 11; (with_reducible refine (laws_zzFits11.calls k _ _ l2 true _ ?side1 ?side2 A10.out).mono ?_); (case side1 => repeat (first | exact (Kd.C_below HR2.out (by repeat (first | (with_reducible first | exact HB.out | apply below_alloc | apply pw_below_drewN | apply below_drew1) | exact HB.out))) | (with_reducible refine Kd.C_alloc ?_ _) | (with_reducible refine Kd.C_drewN ?_ _) | (with_reducible refine Kd.C_drew ?_))); (case side2 => exact HC2.out); rintro e w' ⟨rfl, ⟨nd, rfl⟩⟩) | (go_at_call 11; (with_reducible refine (laws_zzFits11.calls k _ _ l3 t152 _ ?side1 ?side2 A12.out).mono ?_); (case side1 => repeat (first | exact (Kd.C_below HR3.out (by repeat (first | (with_reducible first | exact HB.out | apply below_alloc | apply pw_below_drewN | apply below_drew1) | exact HB.out))) | (with_reducible refine Kd.C_alloc ?_ _) | (with_reducible refine Kd.C_drewN ?_ _) | (with_reducible refine Kd.C_drew ?_))); (case side2 => exact HC3.out); rintro e w' ⟨rfl, ⟨nd, rfl⟩⟩))
          go_meet
          case rel => exact ⟨_, (!t152), (by first | rfl | (simp; done) | (simp [*]; done)), H', ⟨by first | omega | exact Nat.le_refl _⟩, ⟨by repeat (first | (with_reducible first | exact HB.out | apply below_alloc | apply pw_below_drewN | apply below_drew1) | exact HB.out)⟩⟩
        · replace c11 := Bool.eq_false_iff.mpr c11
          subst c11
          have H1 : (laws_FnListEquals.j0 k l0 l1 l2 l3 true) = some r := by rw [if_neg (show ¬ (false = true) by decide)] at H; exact H
          clear H
          have H := H1
          clear H1
          have H' := Aside0.mk H
          clear H
          go_wp2_with (first | ((with_reducible refine gate_callee (f := 10) rfl ?_); refine goesL_ (some 10) rfl rfl Try.func10 (by kernel_rfl) rfl #[.slice A0 l0.length c0] rfl (by (try simp only [List.map_toArray, List.map_cons, List.map_nil]); first | done | rfl | (simp only [List.length_drop, List.length_take]; rfl)) ?_; (with_reducible refine (laws_zzFits10.calls k _ _ l0 true _ ?side1 ?side2 A6.out).mono ?_); (case side1 => repeat (first | exact (Kd.C_below HR0.out HB.out) | (with_reducible refine Kd.C_alloc ?_ _) | (with_reducible refine Kd.C_drewN ?_ _) | (with_reducible refine Kd.C_drew ?_))); (case side2 => exact HC0.out); rintro e w' ⟨rfl, ⟨nd, rfl⟩⟩; refine ⟨_, rfl, ?_⟩) | (go_at_call 10; (with_reducible refine (laws_zzFits10.calls k _ _ l1 true _ ?side1 ?side2 A8.out).mono ?_); (case side1 => repeat (first | exact (Kd.C_below HR1.out (by repeat (first | (with_reducible first | exact HB.out | apply below_alloc | apply pw_below_drewN | apply below_drew1) | exact HB.out))) | (with_reducible refine Kd.C_alloc ?_ _) | (with_reducible refine Kd.C_drewN ?_ _) | (with_reducible refine Kd.C_drew ?_))); (case side2 => exact HC1.out); rintro e w' ⟨rfl, ⟨nd, rfl⟩⟩) | (go_at_call 11; (with_reducible refine (laws_zzFits11.calls k _ _ l2 false _ ?side1 ?side2 A10.out).mono ?_); (case side1 => repeat (first | exact (Kd.C_below HR2.out (by repeat (first | (with_reducible first | exact HB.out | apply below_alloc | apply pw_below_drewN | apply below_drew1) | exact HB.out))) | (with_reducible refine Kd.C_alloc ?_ _) | (with_reducible refine Kd.C_drewN ?_ _) | (with_reducible refine Kd.C_drew ?_))); (case side2 => exact HC2.out); rintro e w' ⟨rfl, ⟨nd, rfl⟩⟩))
          go_meet
          case rel => exact ⟨_, (true), (by first | rfl | (simp; done) | (simp [*]; done)), H', ⟨by first | omega | exact Nat.le_refl _⟩, ⟨by repeat (first | (with_reducible first | exact HB.out | apply below_alloc | apply pw_below_drewN | apply below_drew1) | exact HB.out)⟩⟩
      · replace c9 := Bool.eq_false_iff.mpr c9
        subst c9
        have H1 : (laws_FnListEquals.j0 k l0 l1 l2 l3 true) = some r := by rw [if_neg (show ¬ (false = true) by decide)] at H; exact H
        clear H
        have H := H1
        clear H1
        have H' := Aside0.mk H
        clear H
        go_wp2_with (first | ((with_reducible refine gate_callee (f := 10) rfl ?_); refine goesL_ (some 10) rfl rfl Try.func10 (by kernel_rfl) rfl #[.slice A0 l0.length c0] rfl (by (try simp only [List.map_toArray, List.map_cons, List.map_nil]); first | done | rfl | (simp only [List.length_drop, List.length_take]; rfl)) ?_; (with_reducible refine (laws_zzFits10.calls k _ _ l0 true _ ?side1 ?side2 A6.out).mono ?_); (case side1 => repeat (first | exact (Kd.C_below HR0.out HB.out) | (with_reducible refine Kd.C_alloc ?_ _) | (with_reducible refine Kd.C_drewN ?_ _) | (with_reducible refine Kd.C_drew ?_))); (case side2 => exact HC0.out); rintro e w' ⟨rfl, ⟨nd, rfl⟩⟩; refine ⟨_, rfl, ?_⟩) | (go_at_call 10; (with_reducible refine (laws_zzFits10.calls k _ _ l1 false _ ?side1 ?side2 A8.out).mono ?_); (case side1 => repeat (first | exact (Kd.C_below HR1.out (by repeat (first | (with_reducible first | exact HB.out | apply below_alloc | apply pw_below_drewN | apply below_drew1) | exact HB.out))) | (with_reducible refine Kd.C_alloc ?_ _) | (with_reducible refine Kd.C_drewN ?_ _) | (with_reducible refine Kd.C_drew ?_))); (case side2 => exact HC1.out); rintro e w' ⟨rfl, ⟨nd, rfl⟩⟩))
        go_meet
        case rel => exact ⟨_, (true), (by first | rfl | (simp; done) | (simp [*]; done)), H', ⟨by first | omega | exact Nat.le_refl _⟩, ⟨by repeat (first | (with_reducible first | exact HB.out | apply below_alloc | apply pw_below_drewN | apply below_drew1) | exact HB.out)⟩⟩
    · replace c7 := Bool.eq_false_iff.mpr c7
      subst c7
      have H1 : (laws_FnListEquals.j0 k l0 l1 l2 l3 true) = some r := by rw [if_neg (show ¬ (false = true) by decide)] at H; exact H
      clear H
      have H := H1
      clear H1
      have H' := Aside0.mk H
      clear H
      go_wp2_with (first | ((with_reducible refine gate_callee (f := 10) rfl ?_); refine goesL_ (some 10) rfl rfl Try.func10 (by kernel_rfl) rfl #[.slice A0 l0.length c0] rfl (by (try simp only [List.map_toArray, List.map_cons, List.map_nil]); first | done | rfl | (simp only [List.length_drop, List.length_take]; rfl)) ?_; (with_reducible refine (laws_zzFits10.calls k _ _ l0 false _ ?side1 ?side2 A6.out).mono ?_); (case side1 => repeat (first | exact (Kd.C_below HR0.out HB.out) | (with_reducible refine Kd.C_alloc ?_ _) | (with_reducible refine Kd.C_drewN ?_ _) | (with_reducible refine Kd.C_drew ?_))); (case side2 => exact HC0.out); rintro e w' ⟨rfl, ⟨nd, rfl⟩⟩; refine ⟨_, rfl, ?_⟩))
      go_meet
      case rel => exact ⟨_, (true), (by first | rfl | (simp; done) | (simp [*]; done)), H', ⟨by first | omega | exact Nat.le_refl _⟩, ⟨by repeat (first | (with_reducible first | exact HB.out | apply below_alloc | apply pw_below_drewN | apply below_drew1) | exact HB.out)⟩⟩
  case rest =>
    clear HC5
    try clear c1
    try clear c2
    try clear p2
    try clear c3
    try clear c7
    try clear c9
    try clear c10
    try clear c11
    obtain ⟨kq, x26_4, rfl, HA, HJ4, HB⟩ := hcut
    cases kq with
    | zero => exact absurd HA.out (by simp [laws_FnListEquals.j0])
    | succ kj4 =>
      have H := HA.out
      clear HA
      simp only [laws_FnListEquals.j0] at H
      by_cases c13 : x26_4 = true
      · subst c13
        have H1 : (some true) = some r := by rw [if_pos rfl] at H; exact H
        clear H
        have H := H1
        clear H1
        obtain rfl := Option.some.inj H
        go_wp2
        go_ret
        exact ⟨by first | rfl | (simp [errW_none, errW_some] <;> rfl) | (simp [*, errW_none, errW_some] <;> rfl), by repeat (first | (with_reducible first | exact HB.out | apply below_alloc | apply pw_below_drewN | apply below_drew1) | exact HB.out)⟩
      · replace c13 := Bool.eq_false_iff.mpr c13
        subst c13
        have H1 : ((laws_texts.f l0).bind fun t153 => (if t153 = true then ((laws_texts.f l1).bind fun t154 => (if t154 = true then ((laws_rows.f kj4 l2).bind fun t155 => (if t155 = true then ((laws_rows.f kj4 l3).bind fun t156 => (laws_FnListEquals.j1 kj4 l0 l1 l2 l3 (!t156))) else (laws_FnListEquals.j1 kj4 l0 l1 l2 l3 true))) else (laws_FnListEquals.j1 kj4 l0 l1 l2 l3 true))) else (laws_FnListEquals.j1 kj4 l0 l1 l2 l3 true))) = some r := by rw [if_neg (show ¬ (false = true) by decide)] at H; exact H
        clear H
        have H := H1
        clear H1
        have HC14 := Aside0.mk H
        clear H
        go_upto_region 3 with (fail)
        go_cut [44] (fun v44 wc => ∃ (kq : Nat) (x44_13 : Bool), v44 = .bool x44_13 ∧ Aside0 (laws_FnListEquals.j1 kq l0 l1 l2 l3 x44_13 = some r) ∧ Aside0 (kq ≤ kj4) ∧ Aside0 (Below w.heap.size w wc))
        case first =>
          have H := HC14.out
          clear HC14
          replace H := Option.bind_eq_some_iff.mp H
          obtain ⟨t153, A150, H⟩ := H
          replace H : (if t153 = true then ((laws_texts.f l1).bind fun t154 => (if t154 = true then ((laws_rows.f kj4 l2).bind fun t155 => (if t155 = true then ((laws_rows.f kj4 l3).bind fun t156 => (laws_FnListEquals.j1 kj4 l0 l1 l2 l3 (!t156))) else (laws_FnListEquals.j1 kj4 l0 l1 l2 l3 true))) else (laws_FnListEquals.j1 kj4 l0 l1 l2 l3 true))) else (laws_FnListEquals.j1 kj4 l0 l1 l2 l3 true)) = some r := H
          have A15 := Aside0.mk A150
          clear A150
          by_cases c16 : t153 = true
          · subst c16
            have H1 : ((laws_texts.f l1).bind fun t154 => (if t154 = true then ((laws_rows.f kj4 l2).bind fun t155 => (if t155 = true then ((laws_rows.f kj4 l3).bind fun t156 => (laws_FnListEquals.j1 kj4 l0 l1 l2 l3 (!t156))) else (laws_FnListEquals.j1 kj4 l0 l1 l2 l3 true))) else (laws_FnListEquals.j1 kj4 l0 l1 l2 l3 true))) = some r := by rw [if_pos rfl] at H; exact H
            clear H
            have H := H1
            clear H1
            replace H := Option.bind_eq_some_iff.mp H
            obtain ⟨t154, A170, H⟩ := H
            replace H : (if t154 = true then ((laws_rows.f kj4 l2).bind fun t155 => (if t155 = true then ((laws_rows.f kj4 l3).bind fun t156 => (laws_FnListEquals.j1 kj4 l0 l1 l2 l3 (!t156))) else (laws_FnListEquals.j1 kj4 l0 l1 l2 l3 true))) else (laws_FnListEquals.j1 kj4 l0 l1 l2 l3 true)) = some r := H
            have A17 := Aside0.mk A170
            clear A170
            by_cases c18 : t154 = true
            · subst c18
              have H1 : ((laws_rows.f kj4 l2).bind fun t155 => (if t155 = true then ((laws_rows.f kj4 l3).bind fun t156 => (laws_FnListEquals.j1 kj4 l0 l1 l2 l3 (!t156))) else (laws_FnListEquals.j1 kj4 l0 l1 l2 l3 true))) = some r := by rw [if_pos rfl] at H; exact H
              clear H
              have H := H1
              clear H1
              replace H := Option.bind_eq_some_iff.mp H
              obtain ⟨t155, A190, H⟩ := H
              replace H : (if t155 = true then ((laws_rows.f kj4 l3).bind fun t156 => (laws_FnListEquals.j1 kj4 l0 l1 l2 l3 (!t156))) else (laws_FnListEquals.j1 kj4 l0 l1 l2 l3 true)) = some r := H
              have A19 := Aside0.mk A190
              clear A190
              by_cases c20 : t155 = true
              · subst c20
                have H1 : ((laws_rows.f kj4 l3).bind fun t156 => (laws_FnListEquals.j1 kj4 l0 l1 l2 l3 (!t156))) = some r := by rw [if_pos rfl] at H; exact H
                clear H
                have H := H1
                clear H1
                replace H := Option.bind_eq_some_iff.mp H
                obtain ⟨t156, A210, H⟩ := H
                replace H : (laws_FnListEquals.j1 kj4 l0 l1 l2 l3 (!t156)) = some r := H
                have A21 := Aside0.mk A210
                clear A210
                have H' := Aside0.mk H
                clear H
                go_wp2_with (first | ((with_reducible refine gate_callee (f := 12) rfl ?_); refine goesL_ (some 28) rfl rfl Try.func12 (by kernel_rfl) rfl #[.slice A0 l0.length c0] rfl (by (try simp only [List.map_toArray, List.map_cons, List.map_nil]); first | done | rfl | (simp only [List.length_drop, List.length_take]; rfl)) ?_; (with_reducible refine (laws_texts.calls _ _ l0 true _ ?side1 ?side2 A15.out).mono ?_); (case side1 => repeat (first | exact (Kd.C_below HR0.out HB.out) | (with_reducible refine Kd.C_alloc ?_ _) | (with_reducible refine Kd.C_drewN ?_ _) | (with_reducible refine Kd.C_drew ?_))); (case side2 => exact HC0.out); rintro e w' ⟨rfl, ⟨nd, rfl⟩⟩; refine ⟨_, rfl, ?_⟩) | (go_at_call 12; (with_reducible refine (laws_texts.calls _ _ l1 true _ ?side1 ?side2 A17.out).mono ?_); (case side1 => repeat (first | exact (Kd.C_below HR1.out (by repeat (first | (with_reducible first | exact HB.out | apply below_alloc | apply pw_below_drewN | apply below_drew1) | exact HB.out))) | (with_reducible refine Kd.C_alloc ?_ _) | (with_reducible refine Kd.C_drewN ?_ _) | (with_reducible refine Kd.C_drew ?_))); (case side2 => exact HC1.out); rintro e w' ⟨rfl, ⟨nd, rfl⟩⟩) | (go_at_call 13; (with_reducible refine (laws_rows.calls kj4 _ _ l2 true _ ?side1 ?side2 A19.out).mono ?_); (case side1 => repeat (first | exact (Kd.C_below HR2.out (by repeat (first | (with_reducible first | exact HB.out | apply below_alloc | apply pw_below_drewN | apply below_drew1) | exact HB.out))) | (with_reducible refine Kd.C_alloc ?_ _) | (with_reducible refine Kd.C_drewN ?_ _) | (with_reducible refine Kd.C_drew ?_))); (case side2 => exact HC2.out); rintro e w' ⟨rfl, ⟨nd, rfl⟩⟩) | (go_at_call 13; (with_reducible refine (laws_rows.calls kj4 _ _ l3 t156 _ ?side1 ?side2 A21.out).mono ?_); (case side1 => repeat (first | exact (Kd.C_below HR3.out (by repeat (first | (with_reducible first | exact HB.out | apply below_alloc | apply pw_below_drewN | apply below_drew1) | exact HB.out))) | (with_reducible refine Kd.C_alloc ?_ _) | (with_reducible refine Kd.C_drewN ?_ _) | (with_reducible refine Kd.C_drew ?_))); (case side2 => exact HC3.out); rintro e w' ⟨rfl, ⟨nd, rfl⟩⟩))
                go_meet
                case rel => exact ⟨_, (!t156), (by first | rfl | (simp; done) | (simp [*]; done)), H', ⟨by have := HJ4.out; first | omega | exact Nat.le_refl _⟩, ⟨by repeat (first | (with_reducible first | exact HB.out | apply below_alloc | apply pw_below_drewN | apply below_drew1) | exact HB.out)⟩⟩
              · replace c20 := Bool.eq_false_iff.mpr c20
                subst c20
                have H1 : (laws_FnListEquals.j1 kj4 l0 l1 l2 l3 true) = some r := by rw [if_neg (show ¬ (false = true) by decide)] at H; exact H
                clear H
                have H := H1
                clear H1
                have H' := Aside0.mk H
                clear H
                go_wp2_with (first | ((with_reducible refine gate_callee (f := 12) rfl ?_); refine goesL_ (some 28) rfl rfl Try.func12 (by kernel_rfl) rfl #[.slice A0 l0.length c0] rfl (by (try simp only [List.map_toArray, List.map_cons, List.map_nil]); first | done | rfl | (simp only [List.length_drop, List.length_take]; rfl)) ?_; (with_reducible refine (laws_texts.calls _ _ l0 true _ ?side1 ?side2 A15.out).mono ?_); (case side1 => repeat (first | exact (Kd.C_below HR0.out HB.out) | (with_reducible refine Kd.C_alloc ?_ _) | (with_reducible refine Kd.C_drewN ?_ _) | (with_reducible refine Kd.C_drew ?_))); (case side2 => exact HC0.out); rintro e w' ⟨rfl, ⟨nd, rfl⟩⟩; refine ⟨_, rfl, ?_⟩) | (go_at_call 12; (with_reducible refine (laws_texts.calls _ _ l1 true _ ?side1 ?side2 A17.out).mono ?_); (case side1 => repeat (first | exact (Kd.C_below HR1.out (by repeat (first | (with_reducible first | exact HB.out | apply below_alloc | apply pw_below_drewN | apply below_drew1) | exact HB.out))) | (with_reducible refine Kd.C_alloc ?_ _) | (with_reducible refine Kd.C_drewN ?_ _) | (with_reducible refine Kd.C_drew ?_))); (case side2 => exact HC1.out); rintro e w' ⟨rfl, ⟨nd, rfl⟩⟩) | (go_at_call 13; (with_reducible refine (laws_rows.calls kj4 _ _ l2 false _ ?side1 ?side2 A19.out).mono ?_); (case side1 => repeat (first | exact (Kd.C_below HR2.out (by repeat (first | (with_reducible first | exact HB.out | apply below_alloc | apply pw_below_drewN | apply below_drew1) | exact HB.out))) | (with_reducible refine Kd.C_alloc ?_ _) | (with_reducible refine Kd.C_drewN ?_ _) | (with_reducible refine Kd.C_drew ?_))); (case side2 => exact HC2.out); rintro e w' ⟨rfl, ⟨nd, rfl⟩⟩))
                go_meet
                case rel => exact ⟨_, (true), (by first | rfl | (simp; done) | (simp [*]; done)), H', ⟨by have := HJ4.out; first | omega | exact Nat.le_refl _⟩, ⟨by repeat (first | (with_reducible first | exact HB.out | apply below_alloc | apply pw_below_drewN | apply below_drew1) | exact HB.out)⟩⟩
            · replace c18 := Bool.eq_false_iff.mpr c18
              subst c18
              have H1 : (laws_FnListEquals.j1 kj4 l0 l1 l2 l3 true) = some r := by rw [if_neg (show ¬ (false = true) by decide)] at H; exact H
              clear H
              have H := H1
              clear H1
              have H' := Aside0.mk H
              clear H
              go_wp2_with (first | ((with_reducible refine gate_callee (f := 12) rfl ?_); refine goesL_ (some 28) rfl rfl Try.func12 (by kernel_rfl) rfl #[.slice A0 l0.length c0] rfl (by (try simp only [List.map_toArray, List.map_cons, List.map_nil]); first | done | rfl | (simp only [List.length_drop, List.length_take]; rfl)) ?_; (with_reducible refine (laws_texts.calls _ _ l0 true _ ?side1 ?side2 A15.out).mono ?_); (case side1 => repeat (first | exact (Kd.C_below HR0.out HB.out) | (with_reducible refine Kd.C_alloc ?_ _) | (with_reducible refine Kd.C_drewN ?_ _) | (with_reducible refine Kd.C_drew ?_))); (case side2 => exact HC0.out); rintro e w' ⟨rfl, ⟨nd, rfl⟩⟩; refine ⟨_, rfl, ?_⟩) | (go_at_call 12; (with_reducible refine (laws_texts.calls _ _ l1 false _ ?side1 ?side2 A17.out).mono ?_); (case side1 => repeat (first | exact (Kd.C_below HR1.out (by repeat (first | (with_reducible first | exact HB.out | apply below_alloc | apply pw_below_drewN | apply below_drew1) | exact HB.out))) | (with_reducible refine Kd.C_alloc ?_ _) | (with_reducible refine Kd.C_drewN ?_ _) | (with_reducible refine Kd.C_drew ?_))); (case side2 => exact HC1.out); rintro e w' ⟨rfl, ⟨nd, rfl⟩⟩))
              go_meet
              case rel => exact ⟨_, (true), (by first | rfl | (simp; done) | (simp [*]; done)), H', ⟨by have := HJ4.out; first | omega | exact Nat.le_refl _⟩, ⟨by repeat (first | (with_reducible first | exact HB.out | apply below_alloc | apply pw_below_drewN | apply below_drew1) | exact HB.out)⟩⟩
          · replace c16 := Bool.eq_false_iff.mpr c16
            subst c16
            have H1 : (laws_FnListEquals.j1 kj4 l0 l1 l2 l3 true) = some r := by rw [if_neg (show ¬ (false = true) by decide)] at H; exact H
            clear H
            have H := H1
            clear H1
            have H' := Aside0.mk H
            clear H
            go_wp2_with (first | ((with_reducible refine gate_callee (f := 12) rfl ?_); refine goesL_ (some 28) rfl rfl Try.func12 (by kernel_rfl) rfl #[.slice A0 l0.length c0] rfl (by (try simp only [List.map_toArray, List.map_cons, List.map_nil]); first | done | rfl | (simp only [List.length_drop, List.length_take]; rfl)) ?_; (with_reducible refine (laws_texts.calls _ _ l0 false _ ?side1 ?side2 A15.out).mono ?_); (case side1 => repeat (first | exact (Kd.C_below HR0.out HB.out) | (with_reducible refine Kd.C_alloc ?_ _) | (with_reducible refine Kd.C_drewN ?_ _) | (with_reducible refine Kd.C_drew ?_))); (case side2 => exact HC0.out); rintro e w' ⟨rfl, ⟨nd, rfl⟩⟩; refine ⟨_, rfl, ?_⟩))
            go_meet
            case rel => exact ⟨_, (true), (by first | rfl | (simp; done) | (simp [*]; done)), H', ⟨by have := HJ4.out; first | omega | exact Nat.le_refl _⟩, ⟨by repeat (first | (with_reducible first | exact HB.out | apply below_alloc | apply pw_below_drewN | apply below_drew1) | exact HB.out)⟩⟩
        case rest =>
          clear HC14
          try clear c1
          try clear c2
          try clear p2
          try clear c3
          try clear c7
          try clear c9
          try clear c10
          try clear c11
          try clear c12
          try clear c13
          try clear c16
          try clear c18
          try clear c20
          try clear p2
          obtain ⟨kq, x44_13, rfl, HA, HJ13, HB⟩ := hcut
          cases kq with
          | zero => exact absurd HA.out (by simp [laws_FnListEquals.j1])
          | succ kj13 =>
            have H := HA.out
            clear HA
            simp only [laws_FnListEquals.j1] at H
            by_cases c22 : x44_13 = true
            · subst c22
              have H1 : ((laws_awakeUtil.f kj13).bind fun t157 => (some t157)) = some r := by rw [if_pos rfl] at H; exact H
              clear H
              have H := H1
              clear H1
              replace H := Option.bind_eq_some_iff.mp H
              obtain ⟨t157, A230, H⟩ := H
              replace H : (some t157) = some r := H
              have A23 := Aside0.mk A230
              clear A230
              obtain rfl := Option.some.inj H
              go_wp2_with (first | ((with_reducible refine gate_callee (f := 14) rfl ?_); refine goesL_ (some 45) rfl rfl Try.func14 (by kernel_rfl) rfl #[] rfl (by (try simp only [List.map_toArray, List.map_cons, List.map_nil]); first | done | rfl | (simp only [List.length_drop, List.length_take]; rfl)) ?_; (with_reducible refine (laws_awakeUtil.calls kj13  t157 _ A23.out).mono ?_); rintro e w24 ⟨rfl, hb⟩; refine ⟨_, rfl, ?_⟩; have n0_ := Aside0.mk (below_step (by repeat (first | (with_reducible first | exact HB.out | apply below_alloc | apply pw_below_drewN | apply below_drew1) | exact HB.out)) hb); clear HB; have HB := n0_; clear n0_; (try clear hb); (try clear hb2); (try clear hk); (try clear hi)))
              go_ret
              exact ⟨by first | rfl | (simp [errW_none, errW_some] <;> rfl) | (simp [*, errW_none, errW_some] <;> rfl), by repeat (first | (with_reducible first | exact HB.out | apply below_alloc | apply pw_below_drewN | apply below_drew1) | exact HB.out)⟩
            · replace c22 := Bool.eq_false_iff.mpr c22
              subst c22
              have H1 : ((laws_copied.f l0).bind fun t158 => ((laws_copied.f l1).bind fun t161 => ((impl_ArrayEquals.f kj13 t158 t161).bind fun t164 => ((spec_SameList.f kj13 l0 l1).bind fun t165 => (if (t164 == t165) = true then ((laws_copiedRows.f kj13 l2).bind fun t166 => ((laws_copiedRows.f kj13 l3).bind fun t169 => ((impl_Array2DEquals.f kj13 t166 t169).bind fun t172 => ((spec_SameRows.f kj13 l2 l3).bind fun t173 => (if (t172 == t173) = true then ((laws_awakeUtil.f kj13).bind fun t174 => (some t174)) else (some false)))))) else (some false)))))) = some r := by rw [if_neg (show ¬ (false = true) by decide)] at H; exact H
              clear H
              have H := H1
              clear H1
              replace H := Option.bind_eq_some_iff.mp H
              obtain ⟨t158, A250, H⟩ := H
              replace H : ((laws_copied.f l1).bind fun t161 => ((impl_ArrayEquals.f kj13 t158 t161).bind fun t164 => ((spec_SameList.f kj13 l0 l1).bind fun t165 => (if (t164 == t165) = true then ((laws_copiedRows.f kj13 l2).bind fun t166 => ((laws_copiedRows.f kj13 l3).bind fun t169 => ((impl_Array2DEquals.f kj13 t166 t169).bind fun t172 => ((spec_SameRows.f kj13 l2 l3).bind fun t173 => (if (t172 == t173) = true then ((laws_awakeUtil.f kj13).bind fun t174 => (some t174)) else (some false)))))) else (some false))))) = some r := H
              have A25 := Aside0.mk A250
              clear A250
              replace H := Option.bind_eq_some_iff.mp H
              obtain ⟨t161, A260, H⟩ := H
              replace H : ((impl_ArrayEquals.f kj13 t158 t161).bind fun t164 => ((spec_SameList.f kj13 l0 l1).bind fun t165 => (if (t164 == t165) = true then ((laws_copiedRows.f kj13 l2).bind fun t166 => ((laws_copiedRows.f kj13 l3).bind fun t169 => ((impl_Array2DEquals.f kj13 t166 t169).bind fun t172 => ((spec_SameRows.f kj13 l2 l3).bind fun t173 => (if (t172 == t173) = true then ((laws_awakeUtil.f kj13).bind fun t174 => (some t174)) else (some false)))))) else (some false)))) = some r := H
              have A26 := Aside0.mk A260
              clear A260
              replace H := Option.bind_eq_some_iff.mp H
              obtain ⟨t164, A270, H⟩ := H
              replace H : ((spec_SameList.f kj13 l0 l1).bind fun t165 => (if (t164 == t165) = true then ((laws_copiedRows.f kj13 l2).bind fun t166 => ((laws_copiedRows.f kj13 l3).bind fun t169 => ((impl_Array2DEquals.f kj13 t166 t169).bind fun t172 => ((spec_SameRows.f kj13 l2 l3).bind fun t173 => (if (t172 == t173) = true then ((laws_awakeUtil.f kj13).bind fun t174 => (some t174)) else (some false)))))) else (some false))) = some r := H
              have A27 := Aside0.mk A270
              clear A270
              replace H := Option.bind_eq_some_iff.mp H
              obtain ⟨t165, A280, H⟩ := H
              replace H : (if (t164 == t165) = true then ((laws_copiedRows.f kj13 l2).bind fun t166 => ((laws_copiedRows.f kj13 l3).bind fun t169 => ((impl_Array2DEquals.f kj13 t166 t169).bind fun t172 => ((spec_SameRows.f kj13 l2 l3).bind fun t173 => (if (t172 == t173) = true then ((laws_awakeUtil.f kj13).bind fun t174 => (some t174)) else (some false)))))) else (some false)) = some r := H
              have A28 := Aside0.mk A280
              clear A280
              by_cases c29 : (t164 == t165) = true
              · rw [if_pos c29] at H
                have c29b0 : (t164 == t165) = true := c29
                (try (have c29b1 : decide (t164 = t165) = true := by simpa using c29))
                (try (have c29b2 : (t164 == t165) = true := by simpa using c29))
                clear c29
                replace H := Option.bind_eq_some_iff.mp H
                obtain ⟨t166, A300, H⟩ := H
                replace H : ((laws_copiedRows.f kj13 l3).bind fun t169 => ((impl_Array2DEquals.f kj13 t166 t169).bind fun t172 => ((spec_SameRows.f kj13 l2 l3).bind fun t173 => (if (t172 == t173) = true then ((laws_awakeUtil.f kj13).bind fun t174 => (some t174)) else (some false))))) = some r := H
                have A30 := Aside0.mk A300
                clear A300
                replace H := Option.bind_eq_some_iff.mp H
                obtain ⟨t169, A310, H⟩ := H
                replace H : ((impl_Array2DEquals.f kj13 t166 t169).bind fun t172 => ((spec_SameRows.f kj13 l2 l3).bind fun t173 => (if (t172 == t173) = true then ((laws_awakeUtil.f kj13).bind fun t174 => (some t174)) else (some false)))) = some r := H
                have A31 := Aside0.mk A310
                clear A310
                replace H := Option.bind_eq_some_iff.mp H
                obtain ⟨t172, A320, H⟩ := H
                replace H : ((spec_SameRows.f kj13 l2 l3).bind fun t173 => (if (t172 == t173) = true then ((laws_awakeUtil.f kj13).bind fun t174 => (some t174)) else (some false))) = some r := H
                have A32 := Aside0.mk A320
                clear A320
                replace H := Option.bind_eq_some_iff.mp H
                obtain ⟨t173, A330, H⟩ := H
                replace H : (if (t172 == t173) = true then ((laws_awakeUtil.f kj13).bind fun t174 => (some t174)) else (some false)) = some r := H
                have A33 := Aside0.mk A330
                clear A330
                by_cases c34 : (t172 == t173) = true
                · rw [if_pos c34] at H
                  have c34b0 : (t172 == t173) = true := c34
                  (try (have c34b1 : decide (t172 = t173) = true := by simpa using c34))
                  (try (have c34b2 : (t172 == t173) = true := by simpa using c34))
                  clear c34
                  replace H := Option.bind_eq_some_iff.mp H
                  obtain ⟨t174, A350, H⟩ := H
                  replace H : (some t174) = some r := H
                  have A35 := Aside0.mk A350
                  clear A350
                  obtain rfl := Option.some.inj H
                  go_wp2_with (first | ((with_reducible refine gate_callee (f := 16) rfl ?_); refine goesL_ (some 47) rfl rfl Try.func16 (by kernel_rfl) rfl #[.slice A0 l0.length c0] rfl (by (try simp only [List.map_toArray, List.map_cons, List.map_nil]); first | done | rfl | (simp only [List.length_drop, List.length_take]; rfl)) ?_; (with_reducible refine (laws_copied.calls _ _ l0 t158 _ ?side1 ?side2 A25.out).mono ?_); (case side1 => repeat (first | exact (Kd.C_below HR0.out HB.out) | (with_reducible refine Kd.C_alloc ?_ _) | (with_reducible refine Kd.C_drewN ?_ _) | (with_reducible refine Kd.C_drew ?_))); (case side2 => exact HC0.out); rintro e w36 ⟨v159, rfl, ho0, hb⟩; refine ⟨_, rfl, ?_⟩; have n0_ := Aside0.mk (Kd.R_lower ho0 (below_size (by repeat (first | (with_reducible first | exact HB.out | apply below_alloc | apply pw_below_drewN | apply below_drew1) | exact HB.out)))); have n1_ := Aside0.mk (below_step (by repeat (first | (with_reducible first | exact HB.out | apply below_alloc | apply pw_below_drewN | apply below_drew1) | exact HB.out)) hb); clear HB; have HO160 := n0_; have HB := n1_; clear n0_ n1_; (try clear hb); (try clear hb2); (try clear hk); (try clear hi); (try clear ho0)) | ((with_reducible refine gate_callee (f := 16) rfl ?_); refine goesL_ (some 49) rfl rfl Try.func16 (by kernel_rfl) rfl #[.slice A1 l1.length c1] rfl (by (try simp only [List.map_toArray, List.map_cons, List.map_nil]); first | done | rfl | (simp only [List.length_drop, List.length_take]; rfl)) ?_; (with_reducible refine (laws_copied.calls _ _ l1 t161 _ ?side1 ?side2 A26.out).mono ?_); (case side1 => repeat (first | exact (Kd.C_below HR1.out HB.out) | (with_reducible refine Kd.C_alloc ?_ _) | (with_reducible refine Kd.C_drewN ?_ _) | (with_reducible refine Kd.C_drew ?_))); (case side2 => exact HC1.out); rintro e w37 ⟨v162, rfl, ho0, hb⟩; refine ⟨_, rfl, ?_⟩; have n0_ := Aside0.mk (Kd.R_elder' (by (with_reducible repeat (first | apply Kd.R_alloc | apply Kd.R_drewN | apply Kd.R_drew)); exact HO160.out) (Kd.R_base ho0) hb); have n1_ := Aside0.mk (Kd.R_lower (Kd.R_new' ho0 (Kd.R_lt (by (with_reducible repeat (first | apply Kd.R_alloc | apply Kd.R_drewN | apply Kd.R_drew)); exact HO160.out))) (below_size (by repeat (first | (with_reducible first | exact HB.out | apply below_alloc | apply pw_below_drewN | apply below_drew1) | exact HB.out)))); have n2_ := Aside0.mk (below_step (by repeat (first | (with_reducible first | exact HB.out | apply below_alloc | apply pw_below_drewN | apply below_drew1) | exact HB.out)) hb); clear HO160; clear HB; have HO160 := n0_; have HO163 := n1_; have HB := n2_; clear n0_ n1_ n2_; (try clear hb); (try clear hb2); (try clear hk); (try clear hi); (try clear ho0); obtain ⟨Ao38, co38, eo38⟩ := Kd.R_slice HO160.out; subst eo38; obtain ⟨Ao39, co39, eo39⟩ := Kd.R_slice HO163.out; subst eo39) | ((with_reducible refine gate_callee (f := 15) rfl ?_); refine goesL_ (some 50) rfl rfl Try.func15 (by kernel_rfl) rfl #[.slice Ao38 t158.length co38, .slice Ao39 t161.length co39] rfl (by (try simp only [List.map_toArray, List.map_cons, List.map_nil]); first | done | rfl | (simp only [List.length_drop, List.length_take]; rfl)) ?_; (with_reducible refine (impl_ArrayEquals.calls kj13 _ _ t158 _ _ t161 t164 _ ?side1 ?side2 ?side3 ?side4 A27.out).mono ?_); (case side1 => repeat (first | exact (Kd.R_reads' HO160.out).2.2 | (with_reducible refine Kd.C_alloc ?_ _) | (with_reducible refine Kd.C_drewN ?_ _) | (with_reducible refine Kd.C_drew ?_))); (case side2 => exact (Kd.R_reads' HO160.out).2.1); (case side3 => repeat (first | exact (Kd.R_reads' HO163.out).2.2 | (with_reducible refine Kd.C_alloc ?_ _) | (with_reducible refine Kd.C_drewN ?_ _) | (with_reducible refine Kd.C_drew ?_))); (case side4 => exact (Kd.R_reads' HO163.out).2.1); rintro e w' ⟨rfl, ⟨nd, rfl⟩⟩; refine ⟨_, rfl, ?_⟩) | ((with_reducible refine gate_callee (f := 17) rfl ?_); refine goesL_ (some 53) rfl rfl Try.func17 (by kernel_rfl) rfl #[.slice A0 l0.length c0, .slice A1 l1.length c1] rfl (by (try simp only [List.map_toArray, List.map_cons, List.map_nil]); first | done | rfl | (simp only [List.length_drop, List.length_take]; rfl)) ?_; (with_reducible refine (spec_SameList.calls kj13 _ _ l0 _ _ l1 t165 _ ?side1 ?side2 ?side3 ?side4 A28.out).mono ?_); (case side1 => repeat (first | exact (Kd.C_below HR0.out (by repeat (first | (with_reducible first | exact HB.out | apply below_alloc | apply pw_below_drewN | apply below_drew1) | exact HB.out))) | (with_reducible refine Kd.C_alloc ?_ _) | (with_reducible refine Kd.C_drewN ?_ _) | (with_reducible refine Kd.C_drew ?_))); (case side2 => exact HC0.out); (case side3 => repeat (first | exact (Kd.C_below HR1.out (by repeat (first | (with_reducible first | exact HB.out | apply below_alloc | apply pw_below_drewN | apply below_drew1) | exact HB.out))) | (with_reducible refine Kd.C_alloc ?_ _) | (with_reducible refine Kd.C_drewN ?_ _) | (with_reducible refine Kd.C_drew ?_))); (case side4 => exact HC1.out); rintro e w' ⟨rfl, ⟨nd, rfl⟩⟩; refine ⟨_, rfl, ?_⟩) | (go_at_call 19; (with_reducible refine (laws_copiedRows.calls kj13 _ _ l2 t166 _ ?side1 ?side2 A30.out).mono ?_); (case side1 => repeat (first | exact (Kd.C_below HR2.out (by repeat (first | (with_reducible first | exact HB.out | apply below_alloc | apply pw_below_drewN | apply below_drew1) | exact HB.out))) | (with_reducible refine Kd.C_alloc ?_ _) | (with_reducible refine Kd.C_drewN ?_ _) | (with_reducible refine Kd.C_drew ?_))); (case side2 => exact HC2.out); rintro e w40 ⟨v167, rfl, ho0, hb⟩; have n0_ := Aside0.mk (Kd.R_below (by (with_reducible repeat (first | apply Kd.R_alloc | apply Kd.R_drewN | apply Kd.R_drew)); exact HO160.out) hb); have n1_ := Aside0.mk (Kd.R_below (by (with_reducible repeat (first | apply Kd.R_alloc | apply Kd.R_drewN | apply Kd.R_drew)); exact HO163.out) hb); have n2_ := Aside0.mk (Kd.S_lower (Kd.S_new' (Kd.S_new' ho0 (Kd.R_lt (by (with_reducible repeat (first | apply Kd.R_alloc | apply Kd.R_drewN | apply Kd.R_drew)); exact HO160.out))) (Kd.R_lt (by (with_reducible repeat (first | apply Kd.R_alloc | apply Kd.R_drewN | apply Kd.R_drew)); exact HO163.out))) (below_size (by repeat (first | (with_reducible first | exact HB.out | apply below_alloc | apply pw_below_drewN | apply below_drew1) | exact HB.out)))); have n3_ := Aside0.mk (below_step (by repeat (first | (with_reducible first | exact HB.out | apply below_alloc | apply pw_below_drewN | apply below_drew1) | exact HB.out)) hb); clear HO160; clear HO163; clear HB; have HO160 := n0_; have HO163 := n1_; have HO168 := n2_; have HB := n3_; clear n0_ n1_ n2_ n3_; (try clear hb); (try clear hb2); (try clear hk); (try clear hi); (try clear ho0)) | (go_at_call 19; (with_reducible refine (laws_copiedRows.calls kj13 _ _ l3 t169 _ ?side1 ?side2 A31.out).mono ?_); (case side1 => repeat (first | exact (Kd.C_below HR3.out HB.out) | (with_reducible refine Kd.C_alloc ?_ _) | (with_reducible refine Kd.C_drewN ?_ _) | (with_reducible refine Kd.C_drew ?_))); (case side2 => exact HC3.out); rintro e w41 ⟨v170, rfl, ho0, hb⟩; have n0_ := Aside0.mk (Kd.R_below (by (with_reducible repeat (first | apply Kd.R_alloc | apply Kd.R_drewN | apply Kd.R_drew)); exact HO160.out) hb); have n1_ := Aside0.mk (Kd.R_below (by (with_reducible repeat (first | apply Kd.R_alloc | apply Kd.R_drewN | apply Kd.R_drew)); exact HO163.out) hb); have n2_ := Aside0.mk (Kd.S_elder' (by (with_reducible repeat (first | apply Kd.S_alloc | apply Kd.S_drewN | apply Kd.S_drew)); exact HO168.out) (Kd.S_base ho0) hb); have n3_ := Aside0.mk (Kd.S_lower (Kd.S_new' (Kd.S_new' (Kd.S_new' ho0 (Kd.R_lt (by (with_reducible repeat (first | apply Kd.R_alloc | apply Kd.R_drewN | apply Kd.R_drew)); exact HO160.out))) (Kd.R_lt (by (with_reducible repeat (first | apply Kd.R_alloc | apply Kd.R_drewN | apply Kd.R_drew)); exact HO163.out))) (Kd.S_lt (by (with_reducible repeat (first | apply Kd.S_alloc | apply Kd.S_drewN | apply Kd.S_drew)); exact HO168.out))) (below_size (by repeat (first | (with_reducible first | exact HB.out | apply below_alloc | apply pw_below_drewN | apply below_drew1) | exact HB.out)))); have n4_ := Aside0.mk (below_step (by repeat (first | (with_reducible first | exact HB.out | apply below_alloc | apply pw_below_drewN | apply below_drew1) | exact HB.out)) hb); clear HO160; clear HO163; clear HO168; clear HB; have HO160 := n0_; have HO163 := n1_; have HO168 := n2_; have HO171 := n3_; have HB := n4_; clear n0_ n1_ n2_ n3_ n4_; (try clear hb); (try clear hb2); (try clear hk); (try clear hi); (try clear ho0); obtain ⟨Ao42, co42, eo42⟩ := Kd.S_slice HO168.out; subst eo42; obtain ⟨Ao43, co43, eo43⟩ := Kd.S_slice HO171.out; subst eo43) | (go_at_call 18; (with_reducible refine (impl_Array2DEquals.calls kj13 _ _ t166 _ _ t169 t172 _ ?side1 ?side2 ?side3 ?side4 A32.out).mono ?_); (case side1 => repeat (first | exact (Kd.S_reads' HO168.out).2.2 | (with_reducible refine Kd.C_alloc ?_ _) | (with_reducible refine Kd.C_drewN ?_ _) | (with_reducible refine Kd.C_drew ?_))); (case side2 => exact (Kd.S_reads' HO168.out).2.1); (case side3 => repeat (first | exact (Kd.S_reads' HO171.out).2.2 | (with_reducible refine Kd.C_alloc ?_ _) | (with_reducible refine Kd.C_drewN ?_ _) | (with_reducible refine Kd.C_drew ?_))); (case side4 => exact (Kd.S_reads' HO171.out).2.1); rintro e w' ⟨rfl, ⟨nd, rfl⟩⟩) | (go_at_call 20; (with_reducible refine (spec_SameRows.calls kj13 _ _ l2 _ _ l3 t173 _ ?side1 ?side2 ?side3 ?side4 A33.out).mono ?_); (case side1 => repeat (first | exact (Kd.C_below HR2.out (by repeat (first | (with_reducible first | exact HB.out | apply below_alloc | apply pw_below_drewN | apply below_drew1) | exact HB.out))) | (with_reducible refine Kd.C_alloc ?_ _) | (with_reducible refine Kd.C_drewN ?_ _) | (with_reducible refine Kd.C_drew ?_))); (case side2 => exact HC2.out); (case side3 => repeat (first | exact (Kd.C_below HR3.out (by repeat (first | (with_reducible first | exact HB.out | apply below_alloc | apply pw_below_drewN | apply below_drew1) | exact HB.out))) | (with_reducible refine Kd.C_alloc ?_ _) | (with_reducible refine Kd.C_drewN ?_ _) | (with_reducible refine Kd.C_drew ?_))); (case side4 => exact HC3.out); rintro e w' ⟨rfl, ⟨nd, rfl⟩⟩) | (go_at_call 14; (with_reducible refine (laws_awakeUtil.calls kj13  t174 _ A35.out).mono ?_); rintro e w44 ⟨rfl, hb⟩; have n0_ := Aside0.mk (Kd.R_below (by (with_reducible repeat (first | apply Kd.R_alloc | apply Kd.R_drewN | apply Kd.R_drew)); exact HO160.out) hb); have n1_ := Aside0.mk (Kd.R_below (by (with_reducible repeat (first | apply Kd.R_alloc | apply Kd.R_drewN | apply Kd.R_drew)); exact HO163.out) hb); have n2_ := Aside0.mk (Kd.S_below (by (with_reducible repeat (first | apply Kd.S_alloc | apply Kd.S_drewN | apply Kd.S_drew)); exact HO168.out) hb); have n3_ := Aside0.mk (Kd.S_below (by (with_reducible repeat (first | apply Kd.S_alloc | apply Kd.S_drewN | apply Kd.S_drew)); exact HO171.out) hb); have n4_ := Aside0.mk (below_step (by repeat (first | (with_reducible first | exact HB.out | apply below_alloc | apply pw_below_drewN | apply below_drew1) | exact HB.out)) hb); clear HO160; clear HO163; clear HO168; clear HO171; clear HB; have HO160 := n0_; have HO163 := n1_; have HO168 := n2_; have HO171 := n3_; have HB := n4_; clear n0_ n1_ n2_ n3_ n4_; (try clear hb); (try clear hb2); (try clear hk); (try clear hi)))
                  go_ret
                  exact ⟨by first | rfl | (simp [errW_none, errW_some] <;> rfl) | (simp [*, errW_none, errW_some] <;> rfl), by repeat (first | (with_reducible first | exact HB.out | apply below_alloc | apply pw_below_drewN | apply below_drew1) | exact HB.out)⟩
                · rw [if_neg c34] at H
                  have c34b0 : (t172 == t173) = false := by simpa using c34
                  (try (have c34b1 : decide (t172 = t173) = false := by simpa using c34))
                  (try (have c34b2 : (t172 == t173) = false := by simpa using c34))
                  (try (have c34b3 : ¬ (t172 = t173) := by simpa using c34))
                  clear c34
                  obtain rfl := Option.some.inj H
                  go_wp2_with (first | ((with_reducible refine gate_callee (f := 16) rfl ?_); refine goesL_ (some 47) rfl rfl Try.func16 (by kernel_rfl) rfl #[.slice A0 l0.length c0] rfl (by (try simp only [List.map_toArray, List.map_cons, List.map_nil]); first | done | rfl | (simp only [List.length_drop, List.length_take]; rfl)) ?_; (with_reducible refine (laws_copied.calls _ _ l0 t158 _ ?side1 ?side2 A25.out).mono ?_); (case side1 => repeat (first | exact (Kd.C_below HR0.out HB.out) | (with_reducible refine Kd.C_alloc ?_ _) | (with_reducible refine Kd.C_drewN ?_ _) | (with_reducible refine Kd.C_drew ?_))); (case side2 => exact HC0.out); rintro e w45 ⟨v159, rfl, ho0, hb⟩; refine ⟨_, rfl, ?_⟩; have n0_ := Aside0.mk (Kd.R_lower ho0 (below_size (by repeat (first | (with_reducible first | exact HB.out | apply below_alloc | apply pw_below_drewN | apply below_drew1) | exact HB.out)))); have n1_ := Aside0.mk (below_step (by repeat (first | (with_reducible first | exact HB.out | apply below_alloc | apply pw_below_drewN | apply below_drew1) | exact HB.out)) hb); clear HB; have HO160 := n0_; have HB := n1_; clear n0_ n1_; (try clear hb); (try clear hb2); (try clear hk); (try clear hi); (try clear ho0)) | ((with_reducible refine gate_callee (f := 16) rfl ?_); refine goesL_ (some 49) rfl rfl Try.func16 (by kernel_rfl) rfl #[.slice A1 l1.length c1] rfl (by (try simp only [List.map_toArray, List.map_cons, List.map_nil]); first | done | rfl | (simp only [List.length_drop, List.length_take]; rfl)) ?_; (with_reducible refine (laws_copied.calls _ _ l1 t161 _ ?side1 ?side2 A26.out).mono ?_); (case side1 => repeat (first | exact (Kd.C_below HR1.out HB.out) | (with_reducible refine Kd.C_alloc ?_ _) | (with_reducible refine Kd.C_drewN ?_ _) | (with_reducible refine Kd.C_drew ?_))); (case side2 => exact HC1.out); rintro e w46 ⟨v162, rfl, ho0, hb⟩; refine ⟨_, rfl, ?_⟩; have n0_ := Aside0.mk (Kd.R_elder' (by (with_reducible repeat (first | apply Kd.R_alloc | apply Kd.R_drewN | apply Kd.R_drew)); exact HO160.out) (Kd.R_base ho0) hb); have n1_ := Aside0.mk (Kd.R_lower (Kd.R_new' ho0 (Kd.R_lt (by (with_reducible repeat (first | apply Kd.R_alloc | apply Kd.R_drewN | apply Kd.R_drew)); exact HO160.out))) (below_size (by repeat (first | (with_reducible first | exact HB.out | apply below_alloc | apply pw_below_drewN | apply below_drew1) | exact HB.out)))); have n2_ := Aside0.mk (below_step (by repeat (first | (with_reducible first | exact HB.out | apply below_alloc | apply pw_below_drewN | apply below_drew1) | exact HB.out)) hb); clear HO160; clear HB; have HO160 := n0_; have HO163 := n1_; have HB := n2_; clear n0_ n1_ n2_; (try clear hb); (try clear hb2); (try clear hk); (try clear hi); (try clear ho0); obtain ⟨Ao47, co47, eo47⟩ := Kd.R_slice HO160.out; subst eo47; obtain ⟨Ao48, co48, eo48⟩ := Kd.R_slice HO163.out; subst eo48) | ((with_reducible refine gate_callee (f := 15) rfl ?_); refine goesL_ (some 50) rfl rfl Try.func15 (by kernel_rfl) rfl #[.slice Ao47 t158.length co47, .slice Ao48 t161.length co48] rfl (by (try simp only [List.map_toArray, List.map_cons, List.map_nil]); first | done | rfl | (simp only [List.length_drop, List.length_take]; rfl)) ?_; (with_reducible refine (impl_ArrayEquals.calls kj13 _ _ t158 _ _ t161 t164 _ ?side1 ?side2 ?side3 ?side4 A27.out).mono ?_); (case side1 => repeat (first | exact (Kd.R_reads' HO160.out).2.2 | (with_reducible refine Kd.C_alloc ?_ _) | (with_reducible refine Kd.C_drewN ?_ _) | (with_reducible refine Kd.C_drew ?_))); (case side2 => exact (Kd.R_reads' HO160.out).2.1); (case side3 => repeat (first | exact (Kd.R_reads' HO163.out).2.2 | (with_reducible refine Kd.C_alloc ?_ _) | (with_reducible refine Kd.C_drewN ?_ _) | (with_reducible refine Kd.C_drew ?_))); (case side4 => exact (Kd.R_reads' HO163.out).2.1); rintro e w' ⟨rfl, ⟨nd, rfl⟩⟩; refine ⟨_, rfl, ?_⟩) | ((with_reducible refine gate_callee (f := 17) rfl ?_); refine goesL_ (some 53) rfl rfl Try.func17 (by kernel_rfl) rfl #[.slice A0 l0.length c0, .slice A1 l1.length c1] rfl (by (try simp only [List.map_toArray, List.map_cons, List.map_nil]); first | done | rfl | (simp only [List.length_drop, List.length_take]; rfl)) ?_; (with_reducible refine (spec_SameList.calls kj13 _ _ l0 _ _ l1 t165 _ ?side1 ?side2 ?side3 ?side4 A28.out).mono ?_); (case side1 => repeat (first | exact (Kd.C_below HR0.out (by repeat (first | (with_reducible first | exact HB.out | apply below_alloc | apply pw_below_drewN | apply below_drew1) | exact HB.out))) | (with_reducible refine Kd.C_alloc ?_ _) | (with_reducible refine Kd.C_drewN ?_ _) | (with_reducible refine Kd.C_drew ?_))); (case side2 => exact HC0.out); (case side3 => repeat (first | exact (Kd.C_below HR1.out (by repeat (first | (with_reducible first | exact HB.out | apply below_alloc | apply pw_below_drewN | apply below_drew1) | exact HB.out))) | (with_reducible refine Kd.C_alloc ?_ _) | (with_reducible refine Kd.C_drewN ?_ _) | (with_reducible refine Kd.C_drew ?_))); (case side4 => exact HC1.out); rintro e w' ⟨rfl, ⟨nd, rfl⟩⟩; refine ⟨_, rfl, ?_⟩) | (go_at_call 19; (with_reducible refine (laws_copiedRows.calls kj13 _ _ l2 t166 _ ?side1 ?side2 A30.out).mono ?_); (case side1 => repeat (first | exact (Kd.C_below HR2.out (by repeat (first | (with_reducible first | exact HB.out | apply below_alloc | apply pw_below_drewN | apply below_drew1) | exact HB.out))) | (with_reducible refine Kd.C_alloc ?_ _) | (with_reducible refine Kd.C_drewN ?_ _) | (with_reducible refine Kd.C_drew ?_))); (case side2 => exact HC2.out); rintro e w49 ⟨v167, rfl, ho0, hb⟩; have n0_ := Aside0.mk (Kd.R_below (by (with_reducible repeat (first | apply Kd.R_alloc | apply Kd.R_drewN | apply Kd.R_drew)); exact HO160.out) hb); have n1_ := Aside0.mk (Kd.R_below (by (with_reducible repeat (first | apply Kd.R_alloc | apply Kd.R_drewN | apply Kd.R_drew)); exact HO163.out) hb); have n2_ := Aside0.mk (Kd.S_lower (Kd.S_new' (Kd.S_new' ho0 (Kd.R_lt (by (with_reducible repeat (first | apply Kd.R_alloc | apply Kd.R_drewN | apply Kd.R_drew)); exact HO160.out))) (Kd.R_lt (by (with_reducible repeat (first | apply Kd.R_alloc | apply Kd.R_drewN | apply Kd.R_drew)); exact HO163.out))) (below_size (by repeat (first | (with_reducible first | exact HB.out | apply below_alloc | apply pw_below_drewN | apply below_drew1) | exact HB.out)))); have n3_ := Aside0.mk (below_step (by repeat (first | (with_reducible first | exact HB.out | apply below_alloc | apply pw_below_drewN | apply below_drew1) | exact HB.out)) hb); clear HO160; clear HO163; clear HB; have HO160 := n0_; have HO163 := n1_; have HO168 := n2_; have HB := n3_; clear n0_ n1_ n2_ n3_; (try clear hb); (try clear hb2); (try clear hk); (try clear hi); (try clear ho0)) | (go_at_call 19; (with_reducible refine (laws_copiedRows.calls kj13 _ _ l3 t169 _ ?side1 ?side2 A31.out).mono ?_); (case side1 => repeat (first | exact (Kd.C_below HR3.out HB.out) | (with_reducible refine Kd.C_alloc ?_ _) | (with_reducible refine Kd.C_drewN ?_ _) | (with_reducible refine Kd.C_drew ?_))); (case side2 => exact HC3.out); rintro e w50 ⟨v170, rfl, ho0, hb⟩; have n0_ := Aside0.mk (Kd.R_below (by (with_reducible repeat (first | apply Kd.R_alloc | apply Kd.R_drewN | apply Kd.R_drew)); exact HO160.out) hb); have n1_ := Aside0.mk (Kd.R_below (by (with_reducible repeat (first | apply Kd.R_alloc | apply Kd.R_drewN | apply Kd.R_drew)); exact HO163.out) hb); have n2_ := Aside0.mk (Kd.S_elder' (by (with_reducible repeat (first | apply Kd.S_alloc | apply Kd.S_drewN | apply Kd.S_drew)); exact HO168.out) (Kd.S_base ho0) hb); have n3_ := Aside0.mk (Kd.S_lower (Kd.S_new' (Kd.S_new' (Kd.S_new' ho0 (Kd.R_lt (by (with_reducible repeat (first | apply Kd.R_alloc | apply Kd.R_drewN | apply Kd.R_drew)); exact HO160.out))) (Kd.R_lt (by (with_reducible repeat (first | apply Kd.R_alloc | apply Kd.R_drewN | apply Kd.R_drew)); exact HO163.out))) (Kd.S_lt (by (with_reducible repeat (first | apply Kd.S_alloc | apply Kd.S_drewN | apply Kd.S_drew)); exact HO168.out))) (below_size (by repeat (first | (with_reducible first | exact HB.out | apply below_alloc | apply pw_below_drewN | apply below_drew1) | exact HB.out)))); have n4_ := Aside0.mk (below_step (by repeat (first | (with_reducible first | exact HB.out | apply below_alloc | apply pw_below_drewN | apply below_drew1) | exact HB.out)) hb); clear HO160; clear HO163; clear HO168; clear HB; have HO160 := n0_; have HO163 := n1_; have HO168 := n2_; have HO171 := n3_; have HB := n4_; clear n0_ n1_ n2_ n3_ n4_; (try clear hb); (try clear hb2); (try clear hk); (try clear hi); (try clear ho0); obtain ⟨Ao51, co51, eo51⟩ := Kd.S_slice HO168.out; subst eo51; obtain ⟨Ao52, co52, eo52⟩ := Kd.S_slice HO171.out; subst eo52) | (go_at_call 18; (with_reducible refine (impl_Array2DEquals.calls kj13 _ _ t166 _ _ t169 t172 _ ?side1 ?side2 ?side3 ?side4 A32.out).mono ?_); (case side1 => repeat (first | exact (Kd.S_reads' HO168.out).2.2 | (with_reducible refine Kd.C_alloc ?_ _) | (with_reducible refine Kd.C_drewN ?_ _) | (with_reducible refine Kd.C_drew ?_))); (case side2 => exact (Kd.S_reads' HO168.out).2.1); (case side3 => repeat (first | exact (Kd.S_reads' HO171.out).2.2 | (with_reducible refine Kd.C_alloc ?_ _) | (with_reducible refine Kd.C_drewN ?_ _) | (with_reducible refine Kd.C_drew ?_))); (case side4 => exact (Kd.S_reads' HO171.out).2.1); rintro e w' ⟨rfl, ⟨nd, rfl⟩⟩) | (go_at_call 20; (with_reducible refine (spec_SameRows.calls kj13 _ _ l2 _ _ l3 t173 _ ?side1 ?side2 ?side3 ?side4 A33.out).mono ?_); (case side1 => repeat (first | exact (Kd.C_below HR2.out (by repeat (first | (with_reducible first | exact HB.out | apply below_alloc | apply pw_below_drewN | apply below_drew1) | exact HB.out))) | (with_reducible refine Kd.C_alloc ?_ _) | (with_reducible refine Kd.C_drewN ?_ _) | (with_reducible refine Kd.C_drew ?_))); (case side2 => exact HC2.out); (case side3 => repeat (first | exact (Kd.C_below HR3.out (by repeat (first | (with_reducible first | exact HB.out | apply below_alloc | apply pw_below_drewN | apply below_drew1) | exact HB.out))) | (with_reducible refine Kd.C_alloc ?_ _) | (with_reducible refine Kd.C_drewN ?_ _) | (with_reducible refine Kd.C_drew ?_))); (case side4 => exact HC3.out); rintro e w' ⟨rfl, ⟨nd, rfl⟩⟩))
                  go_ret
                  exact ⟨by first | rfl | (simp [errW_none, errW_some] <;> rfl) | (simp [*, errW_none, errW_some] <;> rfl), by repeat (first | (with_reducible first | exact HB.out | apply below_alloc | apply pw_below_drewN | apply below_drew1) | exact HB.out)⟩
              · rw [if_neg c29] at H
                have c29b0 : (t164 == t165) = false := by simpa using c29
                (try (have c29b1 : decide (t164 = t165) = false := by simpa using c29))
                (try (have c29b2 : (t164 == t165) = false := by simpa using c29))
                (try (have c29b3 : ¬ (t164 = t165) := by simpa using c29))
                clear c29
                obtain rfl := Option.some.inj H
                go_wp2_with (first | ((with_reducible refine gate_callee (f := 16) rfl ?_); refine goesL_ (some 47) rfl rfl Try.func16 (by kernel_rfl) rfl #[.slice A0 l0.length c0] rfl (by (try simp only [List.map_toArray, List.map_cons, List.map_nil]); first | done | rfl | (simp only [List.length_drop, List.length_take]; rfl)) ?_; (with_reducible refine (laws_copied.calls _ _ l0 t158 _ ?side1 ?side2 A25.out).mono ?_); (case side1 => repeat (first | exact (Kd.C_below HR0.out HB.out) | (with_reducible refine Kd.C_alloc ?_ _) | (with_reducible refine Kd.C_drewN ?_ _) | (with_reducible refine Kd.C_drew ?_))); (case side2 => exact HC0.out); rintro e w53 ⟨v159, rfl, ho0, hb⟩; refine ⟨_, rfl, ?_⟩; have n0_ := Aside0.mk (Kd.R_lower ho0 (below_size (by repeat (first | (with_reducible first | exact HB.out | apply below_alloc | apply pw_below_drewN | apply below_drew1) | exact HB.out)))); have n1_ := Aside0.mk (below_step (by repeat (first | (with_reducible first | exact HB.out | apply below_alloc | apply pw_below_drewN | apply below_drew1) | exact HB.out)) hb); clear HB; have HO160 := n0_; have HB := n1_; clear n0_ n1_; (try clear hb); (try clear hb2); (try clear hk); (try clear hi); (try clear ho0)) | ((with_reducible refine gate_callee (f := 16) rfl ?_); refine goesL_ (some 49) rfl rfl Try.func16 (by kernel_rfl) rfl #[.slice A1 l1.length c1] rfl (by (try simp only [List.map_toArray, List.map_cons, List.map_nil]); first | done | rfl | (simp only [List.length_drop, List.length_take]; rfl)) ?_; (with_reducible refine (laws_copied.calls _ _ l1 t161 _ ?side1 ?side2 A26.out).mono ?_); (case side1 => repeat (first | exact (Kd.C_below HR1.out HB.out) | (with_reducible refine Kd.C_alloc ?_ _) | (with_reducible refine Kd.C_drewN ?_ _) | (with_reducible refine Kd.C_drew ?_))); (case side2 => exact HC1.out); rintro e w54 ⟨v162, rfl, ho0, hb⟩; refine ⟨_, rfl, ?_⟩; have n0_ := Aside0.mk (Kd.R_elder' (by (with_reducible repeat (first | apply Kd.R_alloc | apply Kd.R_drewN | apply Kd.R_drew)); exact HO160.out) (Kd.R_base ho0) hb); have n1_ := Aside0.mk (Kd.R_lower (Kd.R_new' ho0 (Kd.R_lt (by (with_reducible repeat (first | apply Kd.R_alloc | apply Kd.R_drewN | apply Kd.R_drew)); exact HO160.out))) (below_size (by repeat (first | (with_reducible first | exact HB.out | apply below_alloc | apply pw_below_drewN | apply below_drew1) | exact HB.out)))); have n2_ := Aside0.mk (below_step (by repeat (first | (with_reducible first | exact HB.out | apply below_alloc | apply pw_below_drewN | apply below_drew1) | exact HB.out)) hb); clear HO160; clear HB; have HO160 := n0_; have HO163 := n1_; have HB := n2_; clear n0_ n1_ n2_; (try clear hb); (try clear hb2); (try clear hk); (try clear hi); (try clear ho0); obtain ⟨Ao55, co55, eo55⟩ := Kd.R_slice HO160.out; subst eo55; obtain ⟨Ao56, co56, eo56⟩ := Kd.R_slice HO163.out; subst eo56) | ((with_reducible refine gate_callee (f := 15) rfl ?_); refine goesL_ (some 50) rfl rfl Try.func15 (by kernel_rfl) rfl #[.slice Ao55 t158.length co55, .slice Ao56 t161.length co56] rfl (by (try simp only [List.map_toArray, List.map_cons, List.map_nil]); first | done | rfl | (simp only [List.length_drop, List.length_take]; rfl)) ?_; (with_reducible refine (impl_ArrayEquals.calls kj13 _ _ t158 _ _ t161 t164 _ ?side1 ?side2 ?side3 ?side4 A27.out).mono ?_); (case side1 => repeat (first | exact (Kd.R_reads' HO160.out).2.2 | (with_reducible refine Kd.C_alloc ?_ _) | (with_reducible refine Kd.C_drewN ?_ _) | (with_reducible refine Kd.C_drew ?_))); (case side2 => exact (Kd.R_reads' HO160.out).2.1); (case side3 => repeat (first | exact (Kd.R_reads' HO163.out).2.2 | (with_reducible refine Kd.C_alloc ?_ _) | (with_reducible refine Kd.C_drewN ?_ _) | (with_reducible refine Kd.C_drew ?_))); (case side4 => exact (Kd.R_reads' HO163.out).2.1); rintro e w' ⟨rfl, ⟨nd, rfl⟩⟩; refine ⟨_, rfl, ?_⟩) | ((with_reducible refine gate_callee (f := 17) rfl ?_); refine goesL_ (some 53) rfl rfl Try.func17 (by kernel_rfl) rfl #[.slice A0 l0.length c0, .slice A1 l1.length c1] rfl (by (try simp only [List.map_toArray, List.map_cons, List.map_nil]); first | done | rfl | (simp only [List.length_drop, List.length_take]; rfl)) ?_; (with_reducible refine (spec_SameList.calls kj13 _ _ l0 _ _ l1 t165 _ ?side1 ?side2 ?side3 ?side4 A28.out).mono ?_); (case side1 => repeat (first | exact (Kd.C_below HR0.out (by repeat (first | (with_reducible first | exact HB.out | apply below_alloc | apply pw_below_drewN | apply below_drew1) | exact HB.out))) | (with_reducible refine Kd.C_alloc ?_ _) | (with_reducible refine Kd.C_drewN ?_ _) | (with_reducible refine Kd.C_drew ?_))); (case side2 => exact HC0.out); (case side3 => repeat (first | exact (Kd.C_below HR1.out (by repeat (first | (with_reducible first | exact HB.out | apply below_alloc | apply pw_below_drewN | apply below_drew1) | exact HB.out))) | (with_reducible refine Kd.C_alloc ?_ _) | (with_reducible refine Kd.C_drewN ?_ _) | (with_reducible refine Kd.C_drew ?_))); (case side4 => exact HC1.out); rintro e w' ⟨rfl, ⟨nd, rfl⟩⟩; refine ⟨_, rfl, ?_⟩))
                go_ret
                exact ⟨by first | rfl | (simp [errW_none, errW_some] <;> rfl) | (simp [*, errW_none, errW_some] <;> rfl), by repeat (first | (with_reducible first | exact HB.out | apply below_alloc | apply pw_below_drewN | apply below_drew1) | exact HB.out)⟩

end Go.Proofs.Ytnbcohabllkneaa.PFnListEquals
