/- The machine side of laws.FnRowsEqual: each function of this text answers what its Lean function answers (written for this claim by a program of this session over the kit's print; no condition beyond what each theorem says). -/
import Derived.Test.YthmkbojkhoaolaaOFnRowsEqualx0
import Derived.Test.YthmkbojkhoaolaaOFnRowsEqualx3
import Derived.Test.YthmkbojkhoaolaaOFnRowsEqualx5
import Derived.Test.YthmkbojkhoaolaaOFnRowsEqualx6
namespace Go.Proofs.Ythmkbojkhoaolaa.PFnRowsEqual
open Go.RowKit Go.Proofs.YthmkbojkhoaolaaW.PrintWords Go.Proofs.YthmkbojkhoaolaaW.PrintLast Go.Proofs.YthmkbojkhoaolaaW.PrintMore
attribute [local go_sem] max2_int min2_int max_two min_two max_three min_three max_four min_four   -- for this text's walks alone
set_option linter.unusedVariables false
set_option linter.unusedSimpArgs false

/-! ### laws_FnRowsEqual: function 6 -/
/-- laws.level over two lists, one behind the other -/
def level2.f (k : Nat) (l0 l1 : List (List ByteArray)) : Option Bool := if l0.length + l1.length < 5864062014805 then laws_level.f k (l0 ++ l1) else none
theorem level2.mono : ∀ a0 a1 k, LeO (level2.f k a0 a1) (level2.f (k + 1) a0 a1) := by
  intro a0 a1 k
  unfold level2.f
  exact LeO.ite (laws_level.mono _ _) (LeO.refl _)
theorem level2.of {k : Nat} {l0 l1 : List (List ByteArray)} {r : Bool} (h : level2.f k l0 l1 = some r) : l0.length + l1.length < 5864062014805 ∧ laws_level.f k (l0 ++ l1) = some r := by
  unfold level2.f at h
  by_cases g : l0.length + l1.length < 5864062014805
  · rw [if_pos g] at h; exact ⟨g, h⟩
  · rw [if_neg g] at h; cases h
theorem Leads.app {w : World} {ok : Nat → Prop} {hs0 hs1 : List Hdr} {l0 l1 : List (List ByteArray)} (h0 : Leads w ok hs0 l0) (h1 : Leads w ok hs1 l1) : Leads w ok (hs0 ++ hs1) (l0 ++ l1) := by
  refine ⟨by rw [List.length_append, List.length_append, h0.1, h1.1], fun j q x hq hx => ?_⟩
  by_cases g : j < hs0.length
  · rw [List.getElem?_append_left g] at hq
    rw [List.getElem?_append_left (by rw [← h0.1]; exact g)] at hx
    exact h0.2 j q x hq hx
  · rw [List.getElem?_append_right (by omega)] at hq
    rw [List.getElem?_append_right (by rw [← h0.1]; omega), ← h0.1] at hx
    exact h1.2 _ q x hq hx
mutual
def laws_FnRowsEqual.j0 : Nat → List (List ByteArray) → List (List ByteArray) → Bool → Option (Bool)
  | 0, _, _, _ => none
  | k + 1, x0, x1, x12 => if x12 = true then (some true) else ((laws_rows.f k x0).bind fun t164 => (if t164 = true then ((laws_rows.f k x1).bind fun t165 => (if t165 = true then ((level2.f k x0 x1).bind fun t166 => (laws_FnRowsEqual.j1 k x0 x1 (!t166))) else (laws_FnRowsEqual.j1 k x0 x1 true))) else (laws_FnRowsEqual.j1 k x0 x1 true)))
def laws_FnRowsEqual.j1 : Nat → List (List ByteArray) → List (List ByteArray) → Bool → Option (Bool)
  | 0, _, _, _ => none
  | k + 1, x0, x1, x29 => if x29 = true then ((laws_awakeUtil.f k).bind fun t167 => (some t167)) else ((laws_copiedRows.f k x0).bind fun t168 => ((laws_copiedRows.f k x1).bind fun t171 => ((impl_SortedArray2DEquals.f k t168 t171).bind fun t174 => ((spec_SameRowBag.f k x0 x1 false).bind fun t175 => (if (t174 == t175) = true then ((laws_awakeUtil.f k).bind fun t176 => (some t176)) else (some false))))))
end
def laws_FnRowsEqual.f (k : Nat) (l0 : List (List ByteArray)) (l1 : List (List ByteArray)) : Option (Bool) := (laws_zzFits11.f k l0).bind fun t162 => (if t162 = true then ((laws_zzFits11.f k l1).bind fun t163 => (laws_FnRowsEqual.j0 k l0 l1 (!t163))) else (laws_FnRowsEqual.j0 k l0 l1 true))
theorem laws_FnRowsEqual.mono_l : ∀ k, (∀ y0 y1 y2, LeO (laws_FnRowsEqual.j0 k y0 y1 y2) (laws_FnRowsEqual.j0 (k + 1) y0 y1 y2)) ∧ (∀ y0 y1 y2, LeO (laws_FnRowsEqual.j1 k y0 y1 y2) (laws_FnRowsEqual.j1 (k + 1) y0 y1 y2))
  | 0 => ⟨fun _ _ _ r h => by simp [laws_FnRowsEqual.j0] at h, fun _ _ _ r h => by simp [laws_FnRowsEqual.j1] at h⟩
  | k + 1 => by
    obtain ⟨ih0, ih1⟩ := laws_FnRowsEqual.mono_l k
    refine ⟨?_, ?_⟩
    · intro y0 y1 y2
      unfold laws_FnRowsEqual.j0
      repeat' first
      | (with_reducible exact ih0 _ _ _)
      | (with_reducible exact ih1 _ _ _)
      | (with_reducible exact impl_SortedArray2DEquals.mono _ _ _)
      | (with_reducible exact laws_awakeUtil.mono _)
      | (with_reducible exact laws_copiedRows.mono _ _)
      | (with_reducible exact level2.mono _ _ _)
      | (with_reducible exact laws_rows.mono _ _)
      | (with_reducible exact laws_zzFits11.mono _ _)
      | (with_reducible exact spec_SameRowBag.mono _ _ _ _)
      | (with_reducible exact LeO.refl _)
      | (with_reducible exact LeO.none _)
      | (with_reducible refine LeO.ite ?_ ?_)
      | (with_reducible refine LeO.bind ?_ (fun _ => ?_))
      | exact ih0 _ _ _
      | exact ih1 _ _ _
      | exact impl_SortedArray2DEquals.mono _ _ _
      | exact laws_awakeUtil.mono _
      | exact laws_copiedRows.mono _ _
      | exact level2.mono _ _ _
      | exact laws_rows.mono _ _
      | exact laws_zzFits11.mono _ _
      | exact spec_SameRowBag.mono _ _ _ _
      | exact LeO.none _
      | refine LeO.ite ?_ ?_
      | refine LeO.bind ?_ (fun _ => ?_)
    · intro y0 y1 y2
      unfold laws_FnRowsEqual.j1
      repeat' first
      | (with_reducible exact ih0 _ _ _)
      | (with_reducible exact ih1 _ _ _)
      | (with_reducible exact impl_SortedArray2DEquals.mono _ _ _)
      | (with_reducible exact laws_awakeUtil.mono _)
      | (with_reducible exact laws_copiedRows.mono _ _)
      | (with_reducible exact level2.mono _ _ _)
      | (with_reducible exact laws_rows.mono _ _)
      | (with_reducible exact laws_zzFits11.mono _ _)
      | (with_reducible exact spec_SameRowBag.mono _ _ _ _)
      | (with_reducible exact LeO.refl _)
      | (with_reducible exact LeO.none _)
      | (with_reducible refine LeO.ite ?_ ?_)
      | (with_reducible refine LeO.bind ?_ (fun _ => ?_))
      | exact ih0 _ _ _
      | exact ih1 _ _ _
      | exact impl_SortedArray2DEquals.mono _ _ _
      | exact laws_awakeUtil.mono _
      | exact laws_copiedRows.mono _ _
      | exact level2.mono _ _ _
      | exact laws_rows.mono _ _
      | exact laws_zzFits11.mono _ _
      | exact spec_SameRowBag.mono _ _ _ _
      | exact LeO.none _
      | refine LeO.ite ?_ ?_
      | refine LeO.bind ?_ (fun _ => ?_)
theorem laws_FnRowsEqual.mono : ∀ a0 a1 k, LeO (laws_FnRowsEqual.f k a0 a1) (laws_FnRowsEqual.f (k + 1) a0 a1) := by
  intro a0 a1 k
  obtain ⟨ih0, ih1⟩ := laws_FnRowsEqual.mono_l k
  unfold laws_FnRowsEqual.f
  repeat' first
      | (with_reducible exact ih0 _ _ _)
      | (with_reducible exact ih1 _ _ _)
      | (with_reducible exact impl_SortedArray2DEquals.mono _ _ _)
      | (with_reducible exact laws_awakeUtil.mono _)
      | (with_reducible exact laws_copiedRows.mono _ _)
      | (with_reducible exact level2.mono _ _ _)
      | (with_reducible exact laws_rows.mono _ _)
      | (with_reducible exact laws_zzFits11.mono _ _)
      | (with_reducible exact spec_SameRowBag.mono _ _ _ _)
      | (with_reducible exact LeO.refl _)
      | (with_reducible exact LeO.none _)
      | (with_reducible refine LeO.ite ?_ ?_)
      | (with_reducible refine LeO.bind ?_ (fun _ => ?_))
      | exact ih0 _ _ _
      | exact ih1 _ _ _
      | exact impl_SortedArray2DEquals.mono _ _ _
      | exact laws_awakeUtil.mono _
      | exact laws_copiedRows.mono _ _
      | exact level2.mono _ _ _
      | exact laws_rows.mono _ _
      | exact laws_zzFits11.mono _ _
      | exact spec_SameRowBag.mono _ _ _ _
      | exact LeO.none _
      | refine LeO.ite ?_ ?_
      | refine LeO.bind ?_ (fun _ => ?_)
set_option maxHeartbeats 8000000 in
set_option maxRecDepth 100000 in
theorem laws_FnRowsEqual.calls (k : Nat) (A0 : Option Addr) (c0 : Nat) (l0 : List (List ByteArray)) (A1 : Option Addr) (c1 : Nat) (l1 : List (List ByteArray)) (r : Bool) (w : World) (hr0 : Kd.C (Kd.slice 9 Kd.string) w A0 l0.length l0) (hc0 : l0.length ≤ c0) (hr1 : Kd.C (Kd.slice 9 Kd.string) w A1 l1.length l1) (hc1 : l1.length ≤ c1) (h : laws_FnRowsEqual.f k l0 l1 = some r) :
    Calls Try.prog 6 #[.slice A0 l0.length c0, .slice A1 l1.length c1] w fun e w' => e = .returned (.bool r) ∧ Below w.heap.size w w' := by
  have HR0 := Aside0.mk hr0
  have HC0 := Aside0.mk hc0
  clear hr0 hc0
  have HR1 := Aside0.mk hr1
  have HC1 := Aside0.mk hc1
  clear hr1 hc1
  have HB := Aside0.mk (Below.refl w.heap.size w)
  have H : ((laws_zzFits11.f k l0).bind fun t162 => (if t162 = true then ((laws_zzFits11.f k l1).bind fun t163 => (laws_FnRowsEqual.j0 k l0 l1 (!t163))) else (laws_FnRowsEqual.j0 k l0 l1 true))) = some r := h
  clear h
  have HC3 := Aside0.mk H
  clear H
  go_enter Try.func6, Try.ntmps6
  go_upto_region 1 with (fail)
  go_cut [12] (fun v12 wc => ∃ (kq : Nat) (x12_2 : Bool), v12 = .bool x12_2 ∧ Aside0 (laws_FnRowsEqual.j0 kq l0 l1 x12_2 = some r) ∧ Aside0 (kq ≤ k) ∧ Aside0 (Below w.heap.size w wc))
  case first =>
    have H := HC3.out
    clear HC3
    replace H := Option.bind_eq_some_iff.mp H
    obtain ⟨t162, A40, H⟩ := H
    replace H : (if t162 = true then ((laws_zzFits11.f k l1).bind fun t163 => (laws_FnRowsEqual.j0 k l0 l1 (!t163))) else (laws_FnRowsEqual.j0 k l0 l1 true)) = some r := H
    have A4 := Aside0.mk A40
    clear A40
    by_cases c5 : t162 = true
    · subst c5
      have H1 : ((laws_zzFits11.f k l1).bind fun t163 => (laws_FnRowsEqual.j0 k l0 l1 (!t163))) = some r := by rw [if_pos rfl] at H; exact H
      clear H
      have H := H1
      clear H1
      replace H := Option.bind_eq_some_iff.mp H
      obtain ⟨t163, A60, H⟩ := H
      replace H : (laws_FnRowsEqual.j0 k l0 l1 (!t163)) = some r := H
      have A6 := Aside0.mk A60
      clear A60
      have H' := Aside0.mk H
      clear H
      go_wp2_with (first | ((with_reducible refine gate_callee (f := 15) rfl ?_); refine goesL_ (some 6) rfl rfl Try.func15 (by kernel_rfl) rfl #[.slice A0 l0.length c0] rfl (by (try simp only [List.map_toArray, List.map_cons, List.map_nil]); first | done | rfl | (simp only [List.length_drop, List.length_take]; rfl)) ?_; (with_reducible refine (laws_zzFits11.calls k _ _ l0 true _ ?side1 ?side2 A4.out).mono ?_); (case side1 => repeat (first | exact (Kd.C_below HR0.out HB.out) | (with_reducible refine Kd.C_alloc ?_ _) | (with_reducible refine Kd.C_drewN ?_ _) | (with_reducible refine Kd.C_drew ?_))); (case side2 => exact HC0.out); rintro e w' ⟨rfl, ⟨nd, rfl⟩⟩; refine ⟨_, rfl, ?_⟩) | (go_at_call 15; (with_reducible refine (laws_zzFits11.calls k _ _ l1 t163 _ ?side1 ?side2 A6.out).mono ?_); (case side1 => repeat (first | exact (Kd.C_below HR1.out (by repeat (first | (with_reducible first | exact HB.out | apply below_alloc | apply pw_below_drewN | apply below_drew1) | exact HB.out))) | (with_reducible refine Kd.C_alloc ?_ _) | (with_reducible refine Kd.C_drewN ?_ _) | (with_reducible refine Kd.C_drew ?_))); (case side2 => exact HC1.out); rintro e w' ⟨rfl, ⟨nd, rfl⟩⟩))
      go_meet
      case rel => exact ⟨_, (!t163), (by first | rfl | (simp; done) | (simp [*]; done)), H', ⟨by first | omega | exact Nat.le_refl _⟩, ⟨by repeat (first | (with_reducible first | exact HB.out | apply below_alloc | apply pw_below_drewN | apply below_drew1) | exact HB.out)⟩⟩
    · replace c5 := Bool.eq_false_iff.mpr c5
      subst c5
      have H1 : (laws_FnRowsEqual.j0 k l0 l1 true) = some r := by rw [if_neg (show ¬ (false = true) by decide)] at H; exact H
      clear H
      have H := H1
      clear H1
      have H' := Aside0.mk H
      clear H
      go_wp2_with (first | ((with_reducible refine gate_callee (f := 15) rfl ?_); refine goesL_ (some 6) rfl rfl Try.func15 (by kernel_rfl) rfl #[.slice A0 l0.length c0] rfl (by (try simp only [List.map_toArray, List.map_cons, List.map_nil]); first | done | rfl | (simp only [List.length_drop, List.length_take]; rfl)) ?_; (with_reducible refine (laws_zzFits11.calls k _ _ l0 false _ ?side1 ?side2 A4.out).mono ?_); (case side1 => repeat (first | exact (Kd.C_below HR0.out HB.out) | (with_reducible refine Kd.C_alloc ?_ _) | (with_reducible refine Kd.C_drewN ?_ _) | (with_reducible refine Kd.C_drew ?_))); (case side2 => exact HC0.out); rintro e w' ⟨rfl, ⟨nd, rfl⟩⟩; refine ⟨_, rfl, ?_⟩))
      go_meet
      case rel => exact ⟨_, (true), (by first | rfl | (simp; done) | (simp [*]; done)), H', ⟨by first | omega | exact Nat.le_refl _⟩, ⟨by repeat (first | (with_reducible first | exact HB.out | apply below_alloc | apply pw_below_drewN | apply below_drew1) | exact HB.out)⟩⟩
  case rest =>
    clear HC3
    try clear c1
    try clear p2
    try clear c5
    try clear c6
    obtain ⟨kq, x12_2, rfl, HA, HJ2, HB⟩ := hcut
    cases kq with
    | zero => exact absurd HA.out (by simp [laws_FnRowsEqual.j0])
    | succ kj2 =>
      have H := HA.out
      clear HA
      simp only [laws_FnRowsEqual.j0] at H
      by_cases c7 : x12_2 = true
      · subst c7
        have H1 : (some true) = some r := by rw [if_pos rfl] at H; exact H
        clear H
        have H := H1
        clear H1
        obtain rfl := Option.some.inj H
        go_wp2
        go_ret
        exact ⟨by first | rfl | (simp [errW_none, errW_some] <;> rfl) | (simp [*, errW_none, errW_some] <;> rfl), by repeat (first | (with_reducible first | exact HB.out | apply below_alloc | apply pw_below_drewN | apply below_drew1) | exact HB.out)⟩
      · replace c7 := Bool.eq_false_iff.mpr c7
        subst c7
        have H1 : ((laws_rows.f kj2 l0).bind fun t164 => (if t164 = true then ((laws_rows.f kj2 l1).bind fun t165 => (if t165 = true then ((level2.f kj2 l0 l1).bind fun t166 => (laws_FnRowsEqual.j1 kj2 l0 l1 (!t166))) else (laws_FnRowsEqual.j1 kj2 l0 l1 true))) else (laws_FnRowsEqual.j1 kj2 l0 l1 true))) = some r := by rw [if_neg (show ¬ (false = true) by decide)] at H; exact H
        clear H
        have H := H1
        clear H1
        have HC8 := Aside0.mk H
        clear H
        go_upto_region 3 with (fail)
        go_cut [29] (fun v29 wc => ∃ (kq : Nat) (x29_7 : Bool), v29 = .bool x29_7 ∧ Aside0 (laws_FnRowsEqual.j1 kq l0 l1 x29_7 = some r) ∧ Aside0 (kq ≤ kj2) ∧ Aside0 (Below w.heap.size w wc))
        case first =>
          have H := HC8.out
          clear HC8
          replace H := Option.bind_eq_some_iff.mp H
          obtain ⟨t164, A90, H⟩ := H
          replace H : (if t164 = true then ((laws_rows.f kj2 l1).bind fun t165 => (if t165 = true then ((level2.f kj2 l0 l1).bind fun t166 => (laws_FnRowsEqual.j1 kj2 l0 l1 (!t166))) else (laws_FnRowsEqual.j1 kj2 l0 l1 true))) else (laws_FnRowsEqual.j1 kj2 l0 l1 true)) = some r := H
          have A9 := Aside0.mk A90
          clear A90
          by_cases c10 : t164 = true
          · subst c10
            have H1 : ((laws_rows.f kj2 l1).bind fun t165 => (if t165 = true then ((level2.f kj2 l0 l1).bind fun t166 => (laws_FnRowsEqual.j1 kj2 l0 l1 (!t166))) else (laws_FnRowsEqual.j1 kj2 l0 l1 true))) = some r := by rw [if_pos rfl] at H; exact H
            clear H
            have H := H1
            clear H1
            replace H := Option.bind_eq_some_iff.mp H
            obtain ⟨t165, A110, H⟩ := H
            replace H : (if t165 = true then ((level2.f kj2 l0 l1).bind fun t166 => (laws_FnRowsEqual.j1 kj2 l0 l1 (!t166))) else (laws_FnRowsEqual.j1 kj2 l0 l1 true)) = some r := H
            have A11 := Aside0.mk A110
            clear A110
            by_cases c12 : t165 = true
            · subst c12
              have H1 : ((level2.f kj2 l0 l1).bind fun t166 => (laws_FnRowsEqual.j1 kj2 l0 l1 (!t166))) = some r := by rw [if_pos rfl] at H; exact H
              clear H
              have H := H1
              clear H1
              replace H := Option.bind_eq_some_iff.mp H
              obtain ⟨t166, A130, H⟩ := H
              replace H : (laws_FnRowsEqual.j1 kj2 l0 l1 (!t166)) = some r := H
              have A13 := Aside0.mk A130
              clear A130
              have H' := Aside0.mk H
              clear H
              obtain ⟨hs0, hC0, hL0⟩ := C_headers HR0.out Kd.heap_string
              obtain ⟨hs1, hC1, hL1⟩ := C_headers HR1.out Kd.heap_string
              have HZ0 := Aside0.mk hC0
              have HZ1 := Aside0.mk hC1
              have HZL0 := Aside0.mk hL0
              have HZL1 := Aside0.mk hL1
              have HSM := Aside0.mk (level2.of A13.out).1
              have HLV := Aside0.mk (level2.of A13.out).2
              clear hC0 hC1 hL0 hL1
              go_wp2_with (first | ((with_reducible refine gate_callee (f := 16) rfl ?_); refine goesL_ (some 14) rfl rfl Try.func16 (by kernel_rfl) rfl #[.slice A0 l0.length c0] rfl (by (try simp only [List.map_toArray, List.map_cons, List.map_nil]); first | done | rfl | (simp only [List.length_drop, List.length_take]; rfl)) ?_; (with_reducible refine (laws_rows.calls kj2 _ _ l0 true _ ?side1 ?side2 A9.out).mono ?_); (case side1 => repeat (first | exact (Kd.C_below HR0.out HB.out) | (with_reducible refine Kd.C_alloc ?_ _) | (with_reducible refine Kd.C_drewN ?_ _) | (with_reducible refine Kd.C_drew ?_))); (case side2 => exact HC0.out); rintro e w' ⟨rfl, ⟨nd, rfl⟩⟩; refine ⟨_, rfl, ?_⟩) | (go_at_call 16; (with_reducible refine (laws_rows.calls kj2 _ _ l1 true _ ?side1 ?side2 A11.out).mono ?_); (case side1 => repeat (first | exact (Kd.C_below HR1.out (by repeat (first | (with_reducible first | exact HB.out | apply below_alloc | apply pw_below_drewN | apply below_drew1) | exact HB.out))) | (with_reducible refine Kd.C_alloc ?_ _) | (with_reducible refine Kd.C_drewN ?_ _) | (with_reducible refine Kd.C_drew ?_))); (case side2 => exact HC1.out); rintro e w' ⟨rfl, ⟨nd, rfl⟩⟩) | ((with_reducible refine gate_dst (N := 22) rfl ?_); (try (refine gate_guard (by rfl) ?_; dsimp only)); refine Kd.R_lit header (w0 := w) w.heap.size 22 ?hg (N := 22) ?hd (xs := ([] : List Hdr)) (inner := []) (ok := fun _ => True) (okp := fun _ => True) ?hr ?hp (fun _ hk => hk) trivial ?hB ?hS (by simp) ?_; (case hd => rfl); (case hg => rfl); (case hr => first | (go_simp; done) | (go_simp; rfl)); (case hp => exact (Reps.none _ _)); (case hB => exact (by repeat (first | (with_reducible first | exact HB.out | apply below_alloc | apply pw_below_drewN | apply below_drew1) | exact HB.out))); (case hS => exact below_size (by repeat (first | (with_reducible first | exact HB.out | apply below_alloc | apply pw_below_drewN | apply below_drew1) | exact HB.out))); intro vz1 wz1 ho hb hg_ hnew_; clear hg_ hnew_; have HOZ := Aside0.mk ho; clear HB; have HB := Aside0.mk hb; clear hb ho) | ((with_reducible refine gate_builtin (b := .append) (xs := #[.tmp 22, .tmp 23]) rfl ?_); (try (refine gate_guard (by rfl) ?_; dsimp only)); at_builtin; refine Kd.R_append_rows header (w0 := w) w.heap.size rfl (.tmp 22) (.tmp 23) 30 22 (.slice none 0 0) 24 rfl Try.underlying30 info22 rfl (by decide) (by omega) vz1 [] hs0 _ _ _ (fun _ => True) (fun _ => False) rfl rfl ?aO ?aR (fun _ _ h => h) (fun _ h => h.elim) ?aF ?aB ?aS ?aL ?_; (case aR => exact Kd.C_below HZ0.out HB.out); (case aB => exact HB.out); (case aF => exact (fun _ _ => trivial)); (case aO => exact HOZ.out); (case aS => exact (below_size HB.out)); (case aL => have := HSM.out; simp; omega); intro vz2 wz2 ho hb hg hat; rw [List.nil_append] at ho; clear HOZ; have HOZ := Aside0.mk ho; clear HB; have HB := Aside0.mk hb; clear ho hb hg hat) | ((with_reducible refine gate_builtin (b := .append) (xs := #[.tmp 24, .tmp 25]) rfl ?_); (try (refine gate_guard (by rfl) ?_; dsimp only)); at_builtin; refine Kd.R_append_rows header (w0 := w) w.heap.size rfl (.tmp 24) (.tmp 25) 30 22 (.slice none 0 0) 24 rfl Try.underlying30 info22 rfl (by decide) (by omega) vz2 hs0 hs1 _ _ _ (fun _ => True) (fun _ => False) rfl rfl ?aO ?aR (fun _ _ h => h) (fun _ h => h.elim) ?aF ?aB ?aS ?aL ?_; (case aR => exact Kd.C_below HZ1.out HB.out); (case aB => exact HB.out); (case aF => exact (fun _ _ => trivial)); (case aO => exact HOZ.out); (case aS => exact (below_size HB.out)); (case aL => have := HSM.out; have := HZL0.out.1; omega); intro vz3 wz3 ho hb hg hat; have HNZ := Aside0.mk (headers_N (ok := fun _ => True) ho (((HZL0.out.app HZL1.out).step (fun k hk _ => hb.block k hk)).mono (fun k hk => ⟨trivial, fun e => by have := own_base (Kd.own_of_R ho) k e.symm; omega⟩)) (fun _ _ => trivial)); clear HOZ; clear HB; have HB := Aside0.mk hb; clear ho hb hg hat; obtain ⟨Az, cz, ez⟩ := Kd.N_slice HNZ.out; subst ez) | (go_at_call 21; have zl := laws_level.calls kj2 Az cz (l0 ++ l1) t166 _ (Kd.N_reads' HNZ.out).2.2 (Kd.N_reads' HNZ.out).2.1 HLV.out; rw [List.length_append] at zl; (with_reducible refine zl.mono ?_); clear zl; rintro e w' ⟨rfl, ⟨nd, rfl⟩⟩))
              go_meet
              case rel => exact ⟨_, (!t166), (by first | rfl | (simp; done) | (simp [*]; done)), H', ⟨by have := HJ2.out; first | omega | exact Nat.le_refl _⟩, ⟨by repeat (first | (with_reducible first | exact HB.out | apply below_alloc | apply pw_below_drewN | apply below_drew1) | exact HB.out)⟩⟩
            · replace c12 := Bool.eq_false_iff.mpr c12
              subst c12
              have H1 : (laws_FnRowsEqual.j1 kj2 l0 l1 true) = some r := by rw [if_neg (show ¬ (false = true) by decide)] at H; exact H
              clear H
              have H := H1
              clear H1
              have H' := Aside0.mk H
              clear H
              go_wp2_with (first | ((with_reducible refine gate_callee (f := 16) rfl ?_); refine goesL_ (some 14) rfl rfl Try.func16 (by kernel_rfl) rfl #[.slice A0 l0.length c0] rfl (by (try simp only [List.map_toArray, List.map_cons, List.map_nil]); first | done | rfl | (simp only [List.length_drop, List.length_take]; rfl)) ?_; (with_reducible refine (laws_rows.calls kj2 _ _ l0 true _ ?side1 ?side2 A9.out).mono ?_); (case side1 => repeat (first | exact (Kd.C_below HR0.out HB.out) | (with_reducible refine Kd.C_alloc ?_ _) | (with_reducible refine Kd.C_drewN ?_ _) | (with_reducible refine Kd.C_drew ?_))); (case side2 => exact HC0.out); rintro e w' ⟨rfl, ⟨nd, rfl⟩⟩; refine ⟨_, rfl, ?_⟩) | (go_at_call 16; (with_reducible refine (laws_rows.calls kj2 _ _ l1 false _ ?side1 ?side2 A11.out).mono ?_); (case side1 => repeat (first | exact (Kd.C_below HR1.out (by repeat (first | (with_reducible first | exact HB.out | apply below_alloc | apply pw_below_drewN | apply below_drew1) | exact HB.out))) | (with_reducible refine Kd.C_alloc ?_ _) | (with_reducible refine Kd.C_drewN ?_ _) | (with_reducible refine Kd.C_drew ?_))); (case side2 => exact HC1.out); rintro e w' ⟨rfl, ⟨nd, rfl⟩⟩))
              go_meet
              case rel => exact ⟨_, (true), (by first | rfl | (simp; done) | (simp [*]; done)), H', ⟨by have := HJ2.out; first | omega | exact Nat.le_refl _⟩, ⟨by repeat (first | (with_reducible first | exact HB.out | apply below_alloc | apply pw_below_drewN | apply below_drew1) | exact HB.out)⟩⟩
          · replace c10 := Bool.eq_false_iff.mpr c10
            subst c10
            have H1 : (laws_FnRowsEqual.j1 kj2 l0 l1 true) = some r := by rw [if_neg (show ¬ (false = true) by decide)] at H; exact H
            clear H
            have H := H1
            clear H1
            have H' := Aside0.mk H
            clear H
            go_wp2_with (first | ((with_reducible refine gate_callee (f := 16) rfl ?_); refine goesL_ (some 14) rfl rfl Try.func16 (by kernel_rfl) rfl #[.slice A0 l0.length c0] rfl (by (try simp only [List.map_toArray, List.map_cons, List.map_nil]); first | done | rfl | (simp only [List.length_drop, List.length_take]; rfl)) ?_; (with_reducible refine (laws_rows.calls kj2 _ _ l0 false _ ?side1 ?side2 A9.out).mono ?_); (case side1 => repeat (first | exact (Kd.C_below HR0.out HB.out) | (with_reducible refine Kd.C_alloc ?_ _) | (with_reducible refine Kd.C_drewN ?_ _) | (with_reducible refine Kd.C_drew ?_))); (case side2 => exact HC0.out); rintro e w' ⟨rfl, ⟨nd, rfl⟩⟩; refine ⟨_, rfl, ?_⟩))
            go_meet
            case rel => exact ⟨_, (true), (by first | rfl | (simp; done) | (simp [*]; done)), H', ⟨by have := HJ2.out; first | omega | exact Nat.le_refl _⟩, ⟨by repeat (first | (with_reducible first | exact HB.out | apply below_alloc | apply pw_below_drewN | apply below_drew1) | exact HB.out)⟩⟩
        case rest =>
          clear HC8
          try clear c1
          try clear p2
          try clear c5
          try clear c6
          try clear c7
          try clear c10
          try clear c12
          try clear p2
          obtain ⟨kq, x29_7, rfl, HA, HJ7, HB⟩ := hcut
          cases kq with
          | zero => exact absurd HA.out (by simp [laws_FnRowsEqual.j1])
          | succ kj7 =>
            have H := HA.out
            clear HA
            simp only [laws_FnRowsEqual.j1] at H
            by_cases c14 : x29_7 = true
            · subst c14
              have H1 : ((laws_awakeUtil.f kj7).bind fun t167 => (some t167)) = some r := by rw [if_pos rfl] at H; exact H
              clear H
              have H := H1
              clear H1
              replace H := Option.bind_eq_some_iff.mp H
              obtain ⟨t167, A150, H⟩ := H
              replace H : (some t167) = some r := H
              have A15 := Aside0.mk A150
              clear A150
              obtain rfl := Option.some.inj H
              go_wp2_with (first | ((with_reducible refine gate_callee (f := 9) rfl ?_); refine goesL_ (some 30) rfl rfl Try.func9 (by kernel_rfl) rfl #[] rfl (by (try simp only [List.map_toArray, List.map_cons, List.map_nil]); first | done | rfl | (simp only [List.length_drop, List.length_take]; rfl)) ?_; (with_reducible refine (laws_awakeUtil.calls kj7  t167 _ A15.out).mono ?_); rintro e w16 ⟨rfl, hb⟩; refine ⟨_, rfl, ?_⟩; have n0_ := Aside0.mk (below_step (by repeat (first | (with_reducible first | exact HB.out | apply below_alloc | apply pw_below_drewN | apply below_drew1) | exact HB.out)) hb); clear HB; have HB := n0_; clear n0_; (try clear hb); (try clear hb2); (try clear hk); (try clear hi)))
              go_ret
              exact ⟨by first | rfl | (simp [errW_none, errW_some] <;> rfl) | (simp [*, errW_none, errW_some] <;> rfl), by repeat (first | (with_reducible first | exact HB.out | apply below_alloc | apply pw_below_drewN | apply below_drew1) | exact HB.out)⟩
            · replace c14 := Bool.eq_false_iff.mpr c14
              subst c14
              have H1 : ((laws_copiedRows.f kj7 l0).bind fun t168 => ((laws_copiedRows.f kj7 l1).bind fun t171 => ((impl_SortedArray2DEquals.f kj7 t168 t171).bind fun t174 => ((spec_SameRowBag.f kj7 l0 l1 false).bind fun t175 => (if (t174 == t175) = true then ((laws_awakeUtil.f kj7).bind fun t176 => (some t176)) else (some false)))))) = some r := by rw [if_neg (show ¬ (false = true) by decide)] at H; exact H
              clear H
              have H := H1
              clear H1
              replace H := Option.bind_eq_some_iff.mp H
              obtain ⟨t168, A170, H⟩ := H
              replace H : ((laws_copiedRows.f kj7 l1).bind fun t171 => ((impl_SortedArray2DEquals.f kj7 t168 t171).bind fun t174 => ((spec_SameRowBag.f kj7 l0 l1 false).bind fun t175 => (if (t174 == t175) = true then ((laws_awakeUtil.f kj7).bind fun t176 => (some t176)) else (some false))))) = some r := H
              have A17 := Aside0.mk A170
              clear A170
              replace H := Option.bind_eq_some_iff.mp H
              obtain ⟨t171, A180, H⟩ := H
              replace H : ((impl_SortedArray2DEquals.f kj7 t168 t171).bind fun t174 => ((spec_SameRowBag.f kj7 l0 l1 false).bind fun t175 => (if (t174 == t175) = true then ((laws_awakeUtil.f kj7).bind fun t176 => (some t176)) else (some false)))) = some r := H
              have A18 := Aside0.mk A180
              clear A180
              replace H := Option.bind_eq_some_iff.mp H
              obtain ⟨t174, A190, H⟩ := H
              replace H : ((spec_SameRowBag.f kj7 l0 l1 false).bind fun t175 => (if (t174 == t175) = true then ((laws_awakeUtil.f kj7).bind fun t176 => (some t176)) else (some false))) = some r := H
              have A19 := Aside0.mk A190
              clear A190
              replace H := Option.bind_eq_some_iff.mp H
              obtain ⟨t175, A200, H⟩ := H
              replace H : (if (t174 == t175) = true then ((laws_awakeUtil.f kj7).bind fun t176 => (some t176)) else (some false)) = some r := H
              have A20 := Aside0.mk A200
              clear A200
              by_cases c21 : (t174 == t175) = true
              · rw [if_pos c21] at H
                have c21b0 : (t174 == t175) = true := c21
                (try (have c21b1 : decide (t174 = t175) = true := by simpa using c21))
                (try (have c21b2 : (t174 == t175) = true := by simpa using c21))
                clear c21
                replace H := Option.bind_eq_some_iff.mp H
                obtain ⟨t176, A220, H⟩ := H
                replace H : (some t176) = some r := H
                have A22 := Aside0.mk A220
                clear A220
                obtain rfl := Option.some.inj H
                go_wp2_with (first | ((with_reducible refine gate_callee (f := 19) rfl ?_); refine goesL_ (some 32) rfl rfl Try.func19 (by kernel_rfl) rfl #[.slice A0 l0.length c0] rfl (by (try simp only [List.map_toArray, List.map_cons, List.map_nil]); first | done | rfl | (simp only [List.length_drop, List.length_take]; rfl)) ?_; (with_reducible refine (laws_copiedRows.calls kj7 _ _ l0 t168 _ ?side1 ?side2 A17.out).mono ?_); (case side1 => repeat (first | exact (Kd.C_below HR0.out HB.out) | (with_reducible refine Kd.C_alloc ?_ _) | (with_reducible refine Kd.C_drewN ?_ _) | (with_reducible refine Kd.C_drew ?_))); (case side2 => exact HC0.out); rintro e w23 ⟨v169, rfl, ho0, hb⟩; refine ⟨_, rfl, ?_⟩; have n0_ := Aside0.mk (Kd.S_lower ho0 (below_size (by repeat (first | (with_reducible first | exact HB.out | apply below_alloc | apply pw_below_drewN | apply below_drew1) | exact HB.out)))); have n1_ := Aside0.mk (below_step (by repeat (first | (with_reducible first | exact HB.out | apply below_alloc | apply pw_below_drewN | apply below_drew1) | exact HB.out)) hb); clear HB; have HO170 := n0_; have HB := n1_; clear n0_ n1_; (try clear hb); (try clear hb2); (try clear hk); (try clear hi); (try clear ho0)) | ((with_reducible refine gate_callee (f := 19) rfl ?_); refine goesL_ (some 34) rfl rfl Try.func19 (by kernel_rfl) rfl #[.slice A1 l1.length c1] rfl (by (try simp only [List.map_toArray, List.map_cons, List.map_nil]); first | done | rfl | (simp only [List.length_drop, List.length_take]; rfl)) ?_; (with_reducible refine (laws_copiedRows.calls kj7 _ _ l1 t171 _ ?side1 ?side2 A18.out).mono ?_); (case side1 => repeat (first | exact (Kd.C_below HR1.out HB.out) | (with_reducible refine Kd.C_alloc ?_ _) | (with_reducible refine Kd.C_drewN ?_ _) | (with_reducible refine Kd.C_drew ?_))); (case side2 => exact HC1.out); rintro e w24 ⟨v172, rfl, ho0, hb⟩; refine ⟨_, rfl, ?_⟩; have n0_ := Aside0.mk (Kd.S_elder' (by (with_reducible repeat (first | apply Kd.S_alloc | apply Kd.S_drewN | apply Kd.S_drew)); exact HO170.out) (Kd.S_base ho0) hb); have n1_ := Aside0.mk (Kd.S_lower (Kd.S_new' ho0 (Kd.S_lt (by (with_reducible repeat (first | apply Kd.S_alloc | apply Kd.S_drewN | apply Kd.S_drew)); exact HO170.out))) (below_size (by repeat (first | (with_reducible first | exact HB.out | apply below_alloc | apply pw_below_drewN | apply below_drew1) | exact HB.out)))); have n2_ := Aside0.mk (below_step (by repeat (first | (with_reducible first | exact HB.out | apply below_alloc | apply pw_below_drewN | apply below_drew1) | exact HB.out)) hb); clear HO170; clear HB; have HO170 := n0_; have HO173 := n1_; have HB := n2_; clear n0_ n1_ n2_; (try clear hb); (try clear hb2); (try clear hk); (try clear hi); (try clear ho0); obtain ⟨Ao25, co25, eo25⟩ := Kd.S_slice HO170.out; subst eo25; obtain ⟨Ao26, co26, eo26⟩ := Kd.S_slice HO173.out; subst eo26) | ((with_reducible refine gate_callee (f := 25) rfl ?_); refine goesL_ (some 35) rfl rfl Try.func25 (by kernel_rfl) rfl #[.slice Ao25 t168.length co25, .slice Ao26 t171.length co26] rfl (by (try simp only [List.map_toArray, List.map_cons, List.map_nil]); first | done | rfl | (simp only [List.length_drop, List.length_take]; rfl)) ?_; (with_reducible refine (impl_SortedArray2DEquals.calls kj7 _ _ t168 _ _ t171 t174 _ ?side1 ?side2 ?side3 ?side4 A19.out).mono ?_); (case side1 => repeat (first | exact (Kd.S_reads' HO170.out).2.2 | (with_reducible refine Kd.C_alloc ?_ _) | (with_reducible refine Kd.C_drewN ?_ _) | (with_reducible refine Kd.C_drew ?_))); (case side2 => exact (Kd.S_reads' HO170.out).2.1); (case side3 => repeat (first | exact (Kd.S_reads' HO173.out).2.2 | (with_reducible refine Kd.C_alloc ?_ _) | (with_reducible refine Kd.C_drewN ?_ _) | (with_reducible refine Kd.C_drew ?_))); (case side4 => exact (Kd.S_reads' HO173.out).2.1); rintro e w27 ⟨rfl, hb⟩; refine ⟨_, rfl, ?_⟩; have n0_ := Aside0.mk (Kd.S_below (by (with_reducible repeat (first | apply Kd.S_alloc | apply Kd.S_drewN | apply Kd.S_drew)); exact HO170.out) hb); have n1_ := Aside0.mk (Kd.S_below (by (with_reducible repeat (first | apply Kd.S_alloc | apply Kd.S_drewN | apply Kd.S_drew)); exact HO173.out) hb); have n2_ := Aside0.mk (below_step (by repeat (first | (with_reducible first | exact HB.out | apply below_alloc | apply pw_below_drewN | apply below_drew1) | exact HB.out)) hb); clear HO170; clear HO173; clear HB; have HO170 := n0_; have HO173 := n1_; have HB := n2_; clear n0_ n1_ n2_; (try clear hb); (try clear hb2); (try clear hk); (try clear hi)) | ((with_reducible refine gate_callee (f := 20) rfl ?_); refine goesL_ (some 38) rfl rfl Try.func20 (by kernel_rfl) rfl #[.slice A0 l0.length c0, .slice A1 l1.length c1, .bool false] rfl (by (try simp only [List.map_toArray, List.map_cons, List.map_nil]); first | done | rfl | (simp only [List.length_drop, List.length_take]; rfl)) ?_; (with_reducible refine (spec_SameRowBag.calls kj7 _ _ l0 _ _ l1 false t175 _ ?side1 ?side2 ?side3 ?side4 A20.out).mono ?_); (case side1 => repeat (first | exact (Kd.C_below HR0.out HB.out) | (with_reducible refine Kd.C_alloc ?_ _) | (with_reducible refine Kd.C_drewN ?_ _) | (with_reducible refine Kd.C_drew ?_))); (case side2 => exact HC0.out); (case side3 => repeat (first | exact (Kd.C_below HR1.out HB.out) | (with_reducible refine Kd.C_alloc ?_ _) | (with_reducible refine Kd.C_drewN ?_ _) | (with_reducible refine Kd.C_drew ?_))); (case side4 => exact HC1.out); rintro e w' ⟨rfl, ⟨nd, rfl⟩⟩; refine ⟨_, rfl, ?_⟩) | (go_at_call 9; (with_reducible refine (laws_awakeUtil.calls kj7  t176 _ A22.out).mono ?_); rintro e w28 ⟨rfl, hb⟩; have n0_ := Aside0.mk (Kd.S_below (by (with_reducible repeat (first | apply Kd.S_alloc | apply Kd.S_drewN | apply Kd.S_drew)); exact HO170.out) hb); have n1_ := Aside0.mk (Kd.S_below (by (with_reducible repeat (first | apply Kd.S_alloc | apply Kd.S_drewN | apply Kd.S_drew)); exact HO173.out) hb); have n2_ := Aside0.mk (below_step (by repeat (first | (with_reducible first | exact HB.out | apply below_alloc | apply pw_below_drewN | apply below_drew1) | exact HB.out)) hb); clear HO170; clear HO173; clear HB; have HO170 := n0_; have HO173 := n1_; have HB := n2_; clear n0_ n1_ n2_; (try clear hb); (try clear hb2); (try clear hk); (try clear hi)))
                go_ret
                exact ⟨by first | rfl | (simp [errW_none, errW_some] <;> rfl) | (simp [*, errW_none, errW_some] <;> rfl), by repeat (first | (with_reducible first | exact HB.out | apply below_alloc | apply pw_below_drewN | apply below_drew1) | exact HB.out)⟩
              · rw [if_neg c21] at H
                have c21b0 : (t174 == t175) = false := by simpa using c21
                (try (have c21b1 : decide (t174 = t175) = false := by simpa using c21))
                (try (have c21b2 : (t174 == t175) = false := by simpa using c21))
                (try (have c21b3 : ¬ (t174 = t175) := by simpa using c21))
                clear c21
                obtain rfl := Option.some.inj H
                go_wp2_with (first | ((with_reducible refine gate_callee (f := 19) rfl ?_); refine goesL_ (some 32) rfl rfl Try.func19 (by kernel_rfl) rfl #[.slice A0 l0.length c0] rfl (by (try simp only [List.map_toArray, List.map_cons, List.map_nil]); first | done | rfl | (simp only [List.length_drop, List.length_take]; rfl)) ?_; (with_reducible refine (laws_copiedRows.calls kj7 _ _ l0 t168 _ ?side1 ?side2 A17.out).mono ?_); (case side1 => repeat (first | exact (Kd.C_below HR0.out HB.out) | (with_reducible refine Kd.C_alloc ?_ _) | (with_reducible refine Kd.C_drewN ?_ _) | (with_reducible refine Kd.C_drew ?_))); (case side2 => exact HC0.out); rintro e w29 ⟨v169, rfl, ho0, hb⟩; refine ⟨_, rfl, ?_⟩; have n0_ := Aside0.mk (Kd.S_lower ho0 (below_size (by repeat (first | (with_reducible first | exact HB.out | apply below_alloc | apply pw_below_drewN | apply below_drew1) | exact HB.out)))); have n1_ := Aside0.mk (below_step (by repeat (first | (with_reducible first | exact HB.out | apply below_alloc | apply pw_below_drewN | apply below_drew1) | exact HB.out)) hb); clear HB; have HO170 := n0_; have HB := n1_; clear n0_ n1_; (try clear hb); (try clear hb2); (try clear hk); (try clear hi); (try clear ho0)) | ((with_reducible refine gate_callee (f := 19) rfl ?_); refine goesL_ (some 34) rfl rfl Try.func19 (by kernel_rfl) rfl #[.slice A1 l1.length c1] rfl (by (try simp only [List.map_toArray, List.map_cons, List.map_nil]); first | done | rfl | (simp only [List.length_drop, List.length_take]; rfl)) ?_; (with_reducible refine (laws_copiedRows.calls kj7 _ _ l1 t171 _ ?side1 ?side2 A18.out).mono ?_); (case side1 => repeat (first | exact (Kd.C_below HR1.out HB.out) | (with_reducible refine Kd.C_alloc ?_ _) | (with_reducible refine Kd.C_drewN ?_ _) | (with_reducible refine Kd.C_drew ?_))); (case side2 => exact HC1.out); rintro e w30 ⟨v172, rfl, ho0, hb⟩; refine ⟨_, rfl, ?_⟩; have n0_ := Aside0.mk (Kd.S_elder' (by (with_reducible repeat (first | apply Kd.S_alloc | apply Kd.S_drewN | apply Kd.S_drew)); exact HO170.out) (Kd.S_base ho0) hb); have n1_ := Aside0.mk (Kd.S_lower (Kd.S_new' ho0 (Kd.S_lt (by (with_reducible repeat (first | apply Kd.S_alloc | apply Kd.S_drewN | apply Kd.S_drew)); exact HO170.out))) (below_size (by repeat (first | (with_reducible first | exact HB.out | apply below_alloc | apply pw_below_drewN | apply below_drew1) | exact HB.out)))); have n2_ := Aside0.mk (below_step (by repeat (first | (with_reducible first | exact HB.out | apply below_alloc | apply pw_below_drewN | apply below_drew1) | exact HB.out)) hb); clear HO170; clear HB; have HO170 := n0_; have HO173 := n1_; have HB := n2_; clear n0_ n1_ n2_; (try clear hb); (try clear hb2); (try clear hk); (try clear hi); (try clear ho0); obtain ⟨Ao31, co31, eo31⟩ := Kd.S_slice HO170.out; subst eo31; obtain ⟨Ao32, co32, eo32⟩ := Kd.S_slice HO173.out; subst eo32) | ((with_reducible refine gate_callee (f := 25) rfl ?_); refine goesL_ (some 35) rfl rfl Try.func25 (by kernel_rfl) rfl #[.slice Ao31 t168.length co31, .slice Ao32 t171.length co32] rfl (by (try simp only [List.map_toArray, List.map_cons, List.map_nil]); first | done | rfl | (simp only [List.length_drop, List.length_take]; rfl)) ?_; (with_reducible refine (impl_SortedArray2DEquals.calls kj7 _ _ t168 _ _ t171 t174 _ ?side1 ?side2 ?side3 ?side4 A19.out).mono ?_); (case side1 => repeat (first | exact (Kd.S_reads' HO170.out).2.2 | (with_reducible refine Kd.C_alloc ?_ _) | (with_reducible refine Kd.C_drewN ?_ _) | (with_reducible refine Kd.C_drew ?_))); (case side2 => exact (Kd.S_reads' HO170.out).2.1); (case side3 => repeat (first | exact (Kd.S_reads' HO173.out).2.2 | (with_reducible refine Kd.C_alloc ?_ _) | (with_reducible refine Kd.C_drewN ?_ _) | (with_reducible refine Kd.C_drew ?_))); (case side4 => exact (Kd.S_reads' HO173.out).2.1); rintro e w33 ⟨rfl, hb⟩; refine ⟨_, rfl, ?_⟩; have n0_ := Aside0.mk (Kd.S_below (by (with_reducible repeat (first | apply Kd.S_alloc | apply Kd.S_drewN | apply Kd.S_drew)); exact HO170.out) hb); have n1_ := Aside0.mk (Kd.S_below (by (with_reducible repeat (first | apply Kd.S_alloc | apply Kd.S_drewN | apply Kd.S_drew)); exact HO173.out) hb); have n2_ := Aside0.mk (below_step (by repeat (first | (with_reducible first | exact HB.out | apply below_alloc | apply pw_below_drewN | apply below_drew1) | exact HB.out)) hb); clear HO170; clear HO173; clear HB; have HO170 := n0_; have HO173 := n1_; have HB := n2_; clear n0_ n1_ n2_; (try clear hb); (try clear hb2); (try clear hk); (try clear hi)) | ((with_reducible refine gate_callee (f := 20) rfl ?_); refine goesL_ (some 38) rfl rfl Try.func20 (by kernel_rfl) rfl #[.slice A0 l0.length c0, .slice A1 l1.length c1, .bool false] rfl (by (try simp only [List.map_toArray, List.map_cons, List.map_nil]); first | done | rfl | (simp only [List.length_drop, List.length_take]; rfl)) ?_; (with_reducible refine (spec_SameRowBag.calls kj7 _ _ l0 _ _ l1 false t175 _ ?side1 ?side2 ?side3 ?side4 A20.out).mono ?_); (case side1 => repeat (first | exact (Kd.C_below HR0.out HB.out) | (with_reducible refine Kd.C_alloc ?_ _) | (with_reducible refine Kd.C_drewN ?_ _) | (with_reducible refine Kd.C_drew ?_))); (case side2 => exact HC0.out); (case side3 => repeat (first | exact (Kd.C_below HR1.out HB.out) | (with_reducible refine Kd.C_alloc ?_ _) | (with_reducible refine Kd.C_drewN ?_ _) | (with_reducible refine Kd.C_drew ?_))); (case side4 => exact HC1.out); rintro e w' ⟨rfl, ⟨nd, rfl⟩⟩; refine ⟨_, rfl, ?_⟩))
                go_ret
                exact ⟨by first | rfl | (simp [errW_none, errW_some] <;> rfl) | (simp [*, errW_none, errW_some] <;> rfl), by repeat (first | (with_reducible first | exact HB.out | apply below_alloc | apply pw_below_drewN | apply below_drew1) | exact HB.out)⟩

end Go.Proofs.Ythmkbojkhoaolaa.PFnRowsEqual
