/- The machine side of laws.FnRolesOrder: each function of this text answers what its Lean function answers (written for this claim by a program of this session over the kit's print; no condition beyond what each theorem says). -/
import Derived.Test.YtjijaciaioieaaaGreatOFnRolesOrderx0
import Derived.Test.YtjijaciaioieaaaGreatOFnRolesOrderx2
namespace Go.Proofs.YtjijaciaioieaaaGreat.PFnRolesOrder
open Go.RowKit Go.Proofs.YtjijaciaioieaaaGreatW.PrintWords Go.Proofs.YtjijaciaioieaaaGreatW.PrintLast Go.Proofs.YtjijaciaioieaaaGreatW.PrintMore
attribute [local go_sem] max2_int min2_int max_two min_two max_three min_three max_four min_four   -- for this text's walks alone
set_option linter.unusedVariables false
set_option linter.unusedSimpArgs false

/-! ### laws_sorted: function 37 -/
mutual
def laws_sorted.l0 : Nat → List ByteArray → Int → Option (List ByteArray)
 | 0, _, _ => none
 | k + 1, x3, x4 => if x4 < (x3.length : Int) then (laws_sorted.l1 k x3 x4 x4) else (some x3)
def laws_sorted.l1 : Nat → List ByteArray → Int → Int → Option (List ByteArray)
 | 0, _, _, _ => none
 | k + 1, x3, x4, x5 => if x5 > 0 then (if 0 ≤ x5 then (if x5 < (x3.length : Int) then (if 0 ≤ (wrap64 (x5 - 1)) then (if (wrap64 (x5 - 1)) < (x3.length : Int) then (if (Op.bytesLess ((rdOf ByteArray.empty x3 x5).toList) ((rdOf ByteArray.empty x3 (wrap64 (x5 - 1))).toList)) = true then (laws_sorted.l1 k ((x3.set (x5 : Int).toNat (rdOf ByteArray.empty x3 (wrap64 (x5 - 1)))).set ((wrap64 (x5 - 1)) : Int).toNat (rdOf ByteArray.empty x3 x5)) x4 (wrap64 (x5 - 1))) else (laws_sorted.l0 k x3 (wrap64 (x4 + 1)))) else (none)) else (none)) else (none)) else (none)) else (laws_sorted.l0 k x3 (wrap64 (x4 + 1)))
end
def laws_sorted.f (k : Nat) (l0 : List ByteArray) : Option (List ByteArray) := (some (([] : List ByteArray) : List ByteArray)).bind fun y155 => (if y155.length + l0.length < 8796093022208 then (laws_sorted.l0 k (y155 ++ l0) 1) else (none))
theorem laws_sorted.mono_l : ∀ k, (∀ y0 y1, LeO (laws_sorted.l0 k y0 y1) (laws_sorted.l0 (k + 1) y0 y1)) ∧ (∀ y0 y1 y2, LeO (laws_sorted.l1 k y0 y1 y2) (laws_sorted.l1 (k + 1) y0 y1 y2))
 | 0 => ⟨fun _ _ r h => by simp [laws_sorted.l0] at h, fun _ _ _ r h => by simp [laws_sorted.l1] at h⟩
 | k + 1 => by
  obtain ⟨ih0, ih1⟩ := laws_sorted.mono_l k
  refine ⟨?_, ?_⟩
  ·intro y0 y1
   unfold laws_sorted.l0
   repeat' first
   | (with_reducible exact ih0 _ _)
   | (with_reducible exact ih1 _ _ _)
   | (with_reducible exact LeO.refl _)
   | (with_reducible exact LeO.none _)
   | (with_reducible refine LeO.ite ?_ ?_)
   | (with_reducible refine LeO.bind ?_ (fun _ => ?_))
   | exact ih0 _ _
   | exact ih1 _ _ _
   | exact LeO.none _
   | refine LeO.ite ?_ ?_
   | refine LeO.bind ?_ (fun _ => ?_)
  ·intro y0 y1 y2
   unfold laws_sorted.l1
   repeat' first
   | (with_reducible exact ih0 _ _)
   | (with_reducible exact ih1 _ _ _)
   | (with_reducible exact LeO.refl _)
   | (with_reducible exact LeO.none _)
   | (with_reducible refine LeO.ite ?_ ?_)
   | (with_reducible refine LeO.bind ?_ (fun _ => ?_))
   | exact ih0 _ _
   | exact ih1 _ _ _
   | exact LeO.none _
   | refine LeO.ite ?_ ?_
   | refine LeO.bind ?_ (fun _ => ?_)
theorem laws_sorted.mono : ∀ a0 k, LeO (laws_sorted.f k a0) (laws_sorted.f (k + 1) a0) := by
 intro a0 k
 obtain ⟨ih0, ih1⟩ := laws_sorted.mono_l k
 unfold laws_sorted.f
 repeat' first
   | (with_reducible exact ih0 _ _)
   | (with_reducible exact ih1 _ _ _)
   | (with_reducible exact LeO.refl _)
   | (with_reducible exact LeO.none _)
   | (with_reducible refine LeO.ite ?_ ?_)
   | (with_reducible refine LeO.bind ?_ (fun _ => ?_))
   | exact ih0 _ _
   | exact ih1 _ _ _
   | exact LeO.none _
   | refine LeO.ite ?_ ?_
   | refine LeO.bind ?_ (fun _ => ?_)
def laws_sorted.T6 : Bool × List (List Nat × List Nat) := (true, [([], []), ([0], [0]), ([1], [1]), ([2], [2]), ([2], [2]), ([3, 4, 2], [2, 3, 4]), ([5, 2], [2, 5]), ([2], [2]), ([2], [2]), ([8, 2], [2, 8]), ([7, 9, 2], [2, 7, 9]), ([10, 2], [2, 10]), ([6, 11, 2], [2, 6, 11]), ([2, 12], [2, 12])])
def laws_sorted.B6 : List Nat := [0, 1, 3, 7, 7, 31, 63, 7, 7, 263, 903, 1927, 4095, 8191]
theorem laws_sorted.tab6 : rtab .any (opsOf Tryz.f37 6) = laws_sorted.T6 := by kernel_rfl
theorem laws_sorted.bits6 : waitsOk laws_sorted.T6.2 laws_sorted.B6 = true := by kernel_rfl
def laws_sorted.T8 : Bool × List (List Nat × List Nat) := (true, [([], []), ([], []), ([], []), ([], []), ([3], [3]), ([], []), ([], []), ([6], [6]), ([5, 7], [5, 7]), ([8], [8]), ([], []), ([], []), ([10, 11], [10, 11]), ([12], [12]), ([0, 1, 0, 1, 5, 6, 7, 8, 9, 13], [0, 1]), ([14, 9, 0, 1, 5, 6, 7, 8, 9, 13], [9, 14]), ([2, 4, 0, 1, 2, 3, 4, 5, 6, 7, 8, 9, 10, 11, 12, 13, 14, 15], [2, 4]), ([16, 13, 15, 0, 1, 2, 3, 4, 5, 6, 7, 8, 9, 10, 11, 12, 13, 14, 15], [13, 16])])
def laws_sorted.B8 : List Nat := [0, 0, 0, 0, 8, 0, 0, 64, 224, 480, 0, 0, 3072, 7168, 16355, 32739, 65535, 131071]
theorem laws_sorted.tab8 : rtab .any (opsOf Tryz.f37 8) = laws_sorted.T8 := by kernel_rfl
theorem laws_sorted.bits8 : waitsOk laws_sorted.T8.2 laws_sorted.B8 = true := by kernel_rfl
set_option maxHeartbeats 8000000 in
set_option maxRecDepth 100000 in
theorem laws_sorted.calls (k : Nat) (A0 : Option Addr) (c0 : Nat) (l0 : List ByteArray) (r : List ByteArray) (w : World) (hr0 : Kd.C Kd.string w A0 l0.length l0) (hc0 : l0.length ≤ c0) (h : laws_sorted.f k l0 = some r) :
  Calls Tryz.prog 37 #[.slice A0 l0.length c0] w fun e w' => ∃ v0_ : Value, e = .returned (v0_) ∧ Kd.R Kd.string 9 w' w.heap.size (fun _ => True) v0_ r ∧ Below w.heap.size w w' := by
 have HR0 := Aside0.mk hr0
 have HC0 := Aside0.mk hc0
 clear hr0 hc0
 have HB := Aside0.mk (Below.refl w.heap.size w)
 have H : ((some (([] : List ByteArray) : List ByteArray)).bind fun y155 => (if y155.length + l0.length < 8796093022208 then (laws_sorted.l0 k (y155 ++ l0) 1) else (none))) = some r := h
 clear h
 obtain ⟨y155, hy155⟩ : ∃ y_ : List ByteArray, y_ = (([] : List ByteArray)) := ⟨_, rfl⟩
 replace H : (if y155.length + l0.length < 8796093022208 then (laws_sorted.l0 k (y155 ++ l0) 1) else (none)) = some r := by first | (rw [hy155]; with_reducible exact H) | (have H2_ := (Option.bind_some _ _).symm.trans H; rw [hy155]; with_reducible exact H2_) | (have H2_ := (Option.bind_some _ _).symm.trans H; with_reducible exact H2_) | with_reducible exact H | (rw [hy155]; exact H) | exact H
 have Ny155 := Aside0.mk hy155
 clear hy155
 by_cases c2 : y155.length + l0.length < 8796093022208
 ·rw [if_pos c2] at H
  have LMc2 := Aside0.mk c2
  clear c2
  obtain ⟨y158, hy158⟩ : ∃ y_ : List ByteArray, y_ = (y155 ++ l0) := ⟨_, rfl⟩
  replace H : (laws_sorted.l0 k y158 1) = some r := by first | (rw [hy158]; with_reducible exact H) | (have H2_ := (Option.bind_some _ _).symm.trans H; rw [hy158]; with_reducible exact H2_) | (have H2_ := (Option.bind_some _ _).symm.trans H; with_reducible exact H2_) | with_reducible exact H | (rw [hy158]; exact H) | exact H
  have Ny158 := Aside0.mk hy158
  clear hy158
  have H' := Aside0.mk H
  clear H
  go_enter Tryz.func37, Tryz.ntmps37
  go_wp2_with (first | ((with_reducible refine gate_dst (N := 6) rfl ?_); refine Kd.R_lit Kd.string _ 9 ?hg (N := 6) ?hd (xs := ([] : List ByteArray)) (inner := []) (ok := fun _ => True) (okp := fun _ => True) ?hr ?hp (fun _ hk => hk) trivial (Below.refl _ _) (Nat.le_refl _) (by simp) ?_; (case hd => rfl); (case hg => rfl); (case hr => first | (go_simp; done) | (go_simp; rfl)); (case hp => exact (Reps.none _ _)); intro v156 w3 ho4 hb hg_ hnew_; clear hg_ hnew_; (first | rw [← Ny155.out] at ho4 | (simp only [Int.reduceToNat] at ho4; rw [← Ny155.out] at ho4)); have n0_ := Aside0.mk (Kd.R_lower ho4 (below_size (by repeat (first | (with_reducible first | exact HB.out | apply below_alloc | apply pw_below_drewN | apply below_drew1) | exact HB.out)))); have n1_ := Aside0.mk (below_step (by repeat (first | (with_reducible first | exact HB.out | apply below_alloc | apply pw_below_drewN | apply below_drew1) | exact HB.out)) hb); clear HB; have HO157 := n0_; have HB := n1_; clear n0_ n1_; clear hb ho4) | ((with_reducible refine gate_builtin (b := .append) (xs := #[.tmp 6, .tmp 7]) rfl ?_); at_builtin; refine Kd.R_append_rows Kd.string (w0 := w) w.heap.size rfl (.tmp 6) (.tmp 7) 38 9 (.string ⟨#[]⟩) 16 rfl Tryz.underlying38 info9 rfl (by decide) (by omega) v156 y155 l0 _ _ _ (fun _ => True) (fun _ => False) rfl rfl ?aO ?aR (fun _ _ h => h) (fun _ h => h.elim) ?aF ?aB ?aS ?aL ?_; (case aR => repeat (first | exact (Kd.C_below HR0.out HB.out) | (with_reducible refine Kd.C_alloc ?_ _) | (with_reducible refine Kd.C_drewN ?_ _) | (with_reducible refine Kd.C_drew ?_))); (case aB => exact (by repeat (first | (with_reducible first | exact HB.out | apply below_alloc | apply pw_below_drewN | apply below_drew1) | exact HB.out))); (case aF => exact (fun _ _ => trivial)); (case aO => exact (by (with_reducible repeat (first | apply Kd.R_alloc | apply Kd.R_drewN | apply Kd.R_drew)); exact HO157.out)); (case aS => exact (below_size (by repeat (first | (with_reducible first | exact HB.out | apply below_alloc | apply pw_below_drewN | apply below_drew1) | exact HB.out)))); (case aL => have := LMc2.out; omega); intro v159 w5 ho hb hg hat; rw [← Ny158.out] at ho; have n0_ := Aside0.mk (hb); have n1_ := Aside0.mk (ho); clear HB; clear HO157; have HB := n0_; have HO160 := n1_; clear n0_ n1_; clear ho hb hg hat))
  go_loopg [4] k (fun kq v4 w' => ∃ (x3_1 : List ByteArray) (x4_1 : Int), v4 = .int .i64 x4_1 ∧ Aside0 (laws_sorted.l0 kq x3_1 x4_1 = some r) ∧ Aside0 (kq ≤ k) ∧ Aside0 (Kd.R Kd.string 9 w' w.heap.size (fun _ => True) v159 x3_1) ∧ Aside0 (Below w.heap.size w w'))
  case atStart => exact ⟨(y158), (1), (by first | rfl | (simp; done) | (simp [*]; done)), H', ⟨Nat.le_refl _⟩, ⟨by (with_reducible repeat (first | apply Kd.R_alloc | apply Kd.R_drewN | apply Kd.R_drew)); exact HO160.out⟩, ⟨by repeat (first | (with_reducible first | exact HB.out | apply below_alloc | apply pw_below_drewN | apply below_drew1) | exact HB.out)⟩⟩
  case round =>
   clear H'
   try clear c2
   try clear p2
   try clear c3
   obtain ⟨x3_1, x4_1, rfl, HA, HK1, HO_3, HB⟩ := hrel
   cases gk with
   | zero => exact absurd HA.out (by simp [laws_sorted.l0])
   | succ k1 =>
    have H := HA.out
    clear HA
    simp only [laws_sorted.l0] at H
    by_cases c6 : x4_1 < (x3_1.length : Int)
    ·rw [if_pos c6] at H
     have c6b0 : decide (x4_1 < (x3_1.length : Int)) = true := decide_eq_true c6
     clear c6
     have H' := Aside0.mk H
     clear H
     obtain ⟨Ao7, co7, eo7⟩ := Kd.R_slice HO_3.out
     subst eo7
     go_wp2
     go_loopg [5] k1 (fun kq v5 w' => ∃ (x3_2 : List ByteArray) (x5_2 : Int), v5 = .int .i64 x5_2 ∧ Aside0 (laws_sorted.l1 kq x3_2 x4_1 x5_2 = some r) ∧ Aside0 (kq ≤ k1) ∧ Aside0 (Kd.R Kd.string 9 w' w.heap.size (fun _ => True) (.slice Ao7 x3_1.length co7) x3_2) ∧ Aside0 (Below w.heap.size w w'))
     case atStart => exact ⟨(x3_1), (x4_1), (by first | rfl | (simp; done) | (simp [*]; done)), H', ⟨Nat.le_refl _⟩, ⟨by (with_reducible repeat (first | apply Kd.R_alloc | apply Kd.R_drewN | apply Kd.R_drew)); exact HO_3.out⟩, ⟨by repeat (first | (with_reducible first | exact HB.out | apply below_alloc | apply pw_below_drewN | apply below_drew1) | exact HB.out)⟩⟩
     case round =>
      clear H'
      try clear c2
      try clear p2
      try clear c3
      try clear c6
      try clear c6b0
      try clear p2
      obtain ⟨x3_2, x5_2, rfl, HA, HK2, HO_3, HB⟩ := hrel
      have hl3_2 := (Kd.R_reads' HO_3.out).1
      rw [hl3_2] at HO_3
      (try simp only [hl3_2])
      cases gk with
      | zero => exact absurd HA.out (by simp [laws_sorted.l1])
      | succ k2 =>
       have H := HA.out
       clear HA
       simp only [laws_sorted.l1] at H
       by_cases c8 : x5_2 > 0
       ·rw [if_pos c8] at H
        have c8b0 : decide (0 < x5_2) = true := decide_eq_true c8
        clear c8
        by_cases c9 : 0 ≤ x5_2
        ·rw [if_pos c9] at H
         have c9b0 : decide (0 ≤ x5_2) = true := decide_eq_true c9
         clear c9
         by_cases c10 : x5_2 < (x3_2.length : Int)
         ·rw [if_pos c10] at H
          have c10b0 : decide (x5_2 < (x3_2.length : Int)) = true := decide_eq_true c10
          clear c10
          obtain ⟨ji11, hji11⟩ : ∃ j_ : Int, (wrap64 (x5_2 - 1)) = j_ := ⟨_, rfl⟩
          replace H : (if 0 ≤ (ji11) then (if (ji11) < (x3_2.length : Int) then (if (Op.bytesLess ((rdOf ByteArray.empty x3_2 x5_2).toList) ((rdOf ByteArray.empty x3_2 (ji11)).toList)) = true then (laws_sorted.l1 k2 ((x3_2.set (x5_2 : Int).toNat (rdOf ByteArray.empty x3_2 (ji11))).set ((ji11) : Int).toNat (rdOf ByteArray.empty x3_2 x5_2)) x4_1 ji11) else (laws_sorted.l0 k2 x3_2 (wrap64 (x4_1 + 1)))) else (none)) else (none)) = some r := by first | (rw [hji11] at H; exact H) | (simp only [hji11] at H ⊢; exact H)
          have hji11w : (IntKind.i64.wrap (x5_2 - 1)) = ji11 := (i64_w _).trans hji11
          by_cases c12 : 0 ≤ (ji11)
          ·rw [if_pos c12] at H
           have c12b0 : decide (0 ≤ (ji11)) = true := decide_eq_true c12
           clear c12
           by_cases c13 : (ji11) < (x3_2.length : Int)
           ·rw [if_pos c13] at H
            have c13b0 : decide ((ji11) < (x3_2.length : Int)) = true := decide_eq_true c13
            clear c13
            by_cases c14 : (Op.bytesLess ((rdOf ByteArray.empty x3_2 x5_2).toList) ((rdOf ByteArray.empty x3_2 (ji11)).toList)) = true
            ·rw [if_pos c14] at H
             have c14b0 : (Op.bytesLess ((rdOf ByteArray.empty x3_2 x5_2).toList) ((rdOf ByteArray.empty x3_2 (ji11)).toList)) = true := c14
             clear c14
             obtain ⟨y165, hy165⟩ : ∃ y_ : List ByteArray, y_ = (x3_2.set (x5_2 : Int).toNat (rdOf ByteArray.empty x3_2 (ji11))) := ⟨_, rfl⟩
             replace H : (laws_sorted.l1 k2 (y165.set ((ji11) : Int).toNat (rdOf ByteArray.empty x3_2 x5_2)) x4_1 ji11) = some r := by first | (rw [hy165]; with_reducible exact H) | (have H2_ := (Option.bind_some _ _).symm.trans H; rw [hy165]; with_reducible exact H2_) | (have H2_ := (Option.bind_some _ _).symm.trans H; with_reducible exact H2_) | with_reducible exact H | (rw [hy165]; exact H) | exact H
             have Ny165 := Aside0.mk hy165
             clear hy165
             obtain ⟨y166, hy166⟩ : ∃ y_ : List ByteArray, y_ = (y165.set ((ji11) : Int).toNat (rdOf ByteArray.empty x3_2 x5_2)) := ⟨_, rfl⟩
             replace H : (laws_sorted.l1 k2 y166 x4_1 ji11) = some r := by first | (rw [hy166]; with_reducible exact H) | (have H2_ := (Option.bind_some _ _).symm.trans H; rw [hy166]; with_reducible exact H2_) | (have H2_ := (Option.bind_some _ _).symm.trans H; with_reducible exact H2_) | with_reducible exact H | (rw [hy166]; exact H) | exact H
             have Ny166 := Aside0.mk hy166
             clear hy166
             have H' := Aside0.mk H
             clear H
             try go_wp2
             have n0_ := Aside0.mk (Kd.R_drew HO_3.out)
             have n1_ := Aside0.mk (below_drew1 HB.out)
             clear HO_3
             clear HB
             have HO_3 := n0_
             have HB := n1_
             clear n0_ n1_
             have p161 : 0 ≤ (x5_2 : Int) := of_decide_eq_true (by first | (with_reducible assumption) | assumption)
             have q161 : x5_2 < (x3_2.length : Int) := of_decide_eq_true (by first | (with_reducible assumption) | assumption)
             obtain ⟨ad161, e161, hx161_0⟩ := Kd.at_string (Kd.R_reads' HO_3.out).2.2 x5_2 p161 q161
             cases e161
             replace p161 := eq_true p161
             replace q161 := eq_true q161
             have p162 : 0 ≤ ((ji11) : Int) := of_decide_eq_true (by first | (with_reducible assumption) | assumption)
             have q162 : (ji11) < (x3_2.length : Int) := of_decide_eq_true (by first | (with_reducible assumption) | assumption)
             obtain ⟨ad162, e162, hx162_0⟩ := Kd.at_string (Kd.R_reads' HO_3.out).2.2 (ji11) p162 q162
             obtain rfl : ad161 = ad162 := (by injection e162)
             replace p162 := eq_true p162
             replace q162 := eq_true q162
             refine start_ (n := 14) (S := fun w' => w'.cell? (ad161.add (x5_2).toNat) = some (.string (rdOf ByteArray.empty x3_2 x5_2)) ∧ w'.cell? (ad161.add ((ji11)).toNat) = some (.string (rdOf ByteArray.empty x3_2 (ji11)))) (ds := []) #[false, false, false, false, false, false, false, false, false, false, false, false, false, false] (by kernel_rfl) rfl rfl ⟨hx161_0, hx162_0⟩ (fun hHeld => ?_); refine with_tabW laws_sorted.tab6 laws_sorted.bits6 (fun HT_ HW_ => ?_)
             generalize wr.drew = w17 at HO_3 HB hx161_0 hx162_0 hHeld ⊢
             refine pure_ (i := 0) (N := some 16) (v := ?_) (a' := ?_) #[true, false, false, false, false, false, false, false, false, false, false, false, false, false] rfl rfl (any_of HT_.out (by kernel_rfl)) (fun _ _ _ h => h) (Or.inl ⟨by rfl, ?_⟩) ?_ ?_
             rotate_left
             ·intro w'
              go_simp
              with_reducible rfl
             rotate_left
             ·simp only [Act.put, List.setIfInBounds_toArray, List.set_cons_zero, List.set_cons_succ, i64_w, i32_w]
              rfl
             refine pure_ (i := 1) (N := some 17) (v := ?_) (a' := ?_) #[true, true, false, false, false, false, false, false, false, false, false, false, false, false] rfl rfl (any_of HT_.out (by kernel_rfl)) (fun _ _ _ h => h) (Or.inl ⟨by rfl, ?_⟩) ?_ ?_
             rotate_left
             ·intro w'
              go_simp
              with_reducible rfl
             rotate_left
             ·simp only [Act.put, List.setIfInBounds_toArray, List.set_cons_zero, List.set_cons_succ, i64_w, i32_w]
              rfl
             refine pure_ (i := 2) (N := some 18) (v := ?_) (a' := ?_) #[true, true, true, false, false, false, false, false, false, false, false, false, false, false] rfl rfl (any_of HT_.out (by kernel_rfl)) (fun _ _ _ h => h) (Or.inl ⟨by rfl, ?_⟩) ?_ ?_
             rotate_left
             ·intro w'
              go_simp
              with_reducible rfl
             rotate_left
             ·simp only [Act.put, List.setIfInBounds_toArray, List.set_cons_zero, List.set_cons_succ, i64_w, i32_w]
              rfl
             refine pure_ (i := 3) (N := some 19) (v := ?_) (a' := ?_) #[true, true, true, true, false, false, false, false, false, false, false, false, false, false] rfl rfl (any_of HT_.out (by kernel_rfl)) (fun _ _ _ h => h) (Or.inl ⟨by rfl, ?_⟩) ?_ ?_
             rotate_left
             ·intro w'
              go_simp
              with_reducible rfl
             rotate_left
             ·simp only [Act.put, List.setIfInBounds_toArray, List.set_cons_zero, List.set_cons_succ, i64_w, i32_w]
              rfl
             refine pure_ (i := 4) (N := some 20) (v := ?_) (a' := ?_) #[true, true, true, true, true, false, false, false, false, false, false, false, false, false] rfl rfl (any_of HT_.out (by kernel_rfl)) (fun _ _ _ h => h) (Or.inl ⟨by rfl, ?_⟩) ?_ ?_
             rotate_left
             ·intro w'
              go_simp
              with_reducible rfl
             rotate_left
             ·simp only [Act.put, List.setIfInBounds_toArray, List.set_cons_zero, List.set_cons_succ, i64_w, i32_w]
              rfl
             refine pure_ (i := 5) (N := some 21) (v := ?_) (a' := ?_) #[true, true, true, true, true, true, false, false, false, false, false, false, false, false] rfl rfl (any_of HT_.out (by kernel_rfl)) (fun _ _ _ h => h) (Or.inl ⟨by rfl, ?_⟩) ?_ ?_
             rotate_left
             ·intro w'
              go_simp
              with_reducible rfl
             rotate_left
             ·simp only [Act.put, List.setIfInBounds_toArray, List.set_cons_zero, List.set_cons_succ, i64_w, i32_w]
              rfl
             refine pure_ (i := 7) (N := some 23) (v := ?_) (a' := ?_) #[true, true, true, true, true, true, false, true, false, false, false, false, false, false] rfl rfl (any_of HT_.out (by kernel_rfl)) (fun _ _ _ h => h) (Or.inl ⟨by rfl, ?_⟩) ?_ ?_
             rotate_left
             ·intro w'
              go_simp
              with_reducible rfl
             rotate_left
             ·simp only [Act.put, List.setIfInBounds_toArray, List.set_cons_zero, List.set_cons_succ, i64_w, i32_w]
              rfl
             refine pure_ (i := 8) (N := some 24) (v := ?_) (a' := ?_) #[true, true, true, true, true, true, false, true, true, false, false, false, false, false] rfl rfl (any_of HT_.out (by kernel_rfl)) (fun _ _ _ h => h) (Or.inl ⟨by rfl, ?_⟩) ?_ ?_
             rotate_left
             ·intro w'
              go_simp
              with_reducible rfl
             rotate_left
             ·simp only [Act.put, List.setIfInBounds_toArray, List.set_cons_zero, List.set_cons_succ, i64_w, i32_w]
              rfl
             refine pure_ (i := 9) (N := some 25) (v := ?_) (a' := ?_) #[true, true, true, true, true, true, false, true, true, true, false, false, false, false] rfl rfl (any_of HT_.out (by kernel_rfl)) (fun _ _ _ h => h) (Or.inl ⟨by rfl, ?_⟩) ?_ ?_
             rotate_left
             ·intro w'
              go_simp
              with_reducible rfl
             rotate_left
             ·simp only [Act.put, List.setIfInBounds_toArray, List.set_cons_zero, List.set_cons_succ, i64_w, i32_w]
              rfl
             refine pure_ (i := 10) (N := some 26) (v := ?_) (a' := ?_) #[true, true, true, true, true, true, false, true, true, true, true, false, false, false] rfl rfl (any_of HT_.out (by kernel_rfl)) (fun _ _ _ h => h) (Or.inl ⟨by rfl, ?_⟩) ?_ ?_
             rotate_left
             ·intro w'
              go_simp
              with_reducible rfl
             rotate_left
             ·simp only [Act.put, List.setIfInBounds_toArray, List.set_cons_zero, List.set_cons_succ, i64_w, i32_w]
              rfl
             refine take_ (i := 6) (N := some 22) (v := ?_) (a' := ?_) #[true, true, true, true, true, true, true, true, true, true, true, false, false, false] rfl rfl (take_ofW HT_.out HW_.out (by kernel_rfl)) (fun _ _ _ h => h) (Or.inl ⟨by rfl, ?_⟩) hHeld ?_ ?_
             rotate_left
             ·rintro w' ⟨s0, s1⟩
              go_simp
              with_reducible rfl
             rotate_left
             ·simp only [Act.put, List.setIfInBounds_toArray, List.set_cons_zero, List.set_cons_succ, i64_w, i32_w]
              rfl
             refine take_ (i := 11) (N := some 27) (v := ?_) (a' := ?_) #[true, true, true, true, true, true, true, true, true, true, true, true, false, false] rfl rfl (take_ofW HT_.out HW_.out (by kernel_rfl)) (fun _ _ _ h => h) (Or.inl ⟨by rfl, ?_⟩) hHeld ?_ ?_
             rotate_left
             ·rintro w' ⟨s0, s1⟩
              go_simp
              with_reducible rfl
             rotate_left
             ·simp only [Act.put, List.setIfInBounds_toArray, List.set_cons_zero, List.set_cons_succ, i64_w, i32_w]
              rfl
             refine pure_ (i := 12) (N := some 28) (v := ?_) (a' := ?_) #[true, true, true, true, true, true, true, true, true, true, true, true, true, false] rfl rfl (any_of HT_.out (by kernel_rfl)) (fun _ _ _ h => h) (Or.inl ⟨by rfl, ?_⟩) ?_ ?_
             rotate_left
             ·intro w'
              go_simp
              with_reducible rfl
             rotate_left
             ·simp only [Act.put, List.setIfInBounds_toArray, List.set_cons_zero, List.set_cons_succ, i64_w, i32_w]
              rfl
             refine pure_ (i := 13) (N := some 29) (v := ?_) (a' := ?_) #[true, true, true, true, true, true, true, true, true, true, true, true, true, true] rfl rfl (any_of HT_.out (by kernel_rfl)) (fun _ _ _ h => h) (Or.inl ⟨by rfl, ?_⟩) ?_ ?_
             rotate_left
             ·intro w'
              go_simp
              with_reducible rfl
             rotate_left
             ·simp only [Act.put, List.setIfInBounds_toArray, List.set_cons_zero, List.set_cons_succ, i64_w, i32_w]
              rfl
             refine done_ (done_of HT_.out (by kernel_rfl)) ?_
             try go_wp2
             have n0_ := Aside0.mk (Kd.R_drew HO_3.out)
             have n1_ := Aside0.mk (below_drew1 HB.out)
             clear HO_3
             clear HB
             have HO_3 := n0_
             have HB := n1_
             clear n0_ n1_
             have p163 : 0 ≤ ((ji11) : Int) := of_decide_eq_true (by first | (with_reducible assumption) | assumption)
             have q163 : (ji11) < (x3_2.length : Int) := of_decide_eq_true (by first | (with_reducible assumption) | assumption)
             obtain ⟨ad163, e163, hx163_0⟩ := Kd.at_string (Kd.R_reads' HO_3.out).2.2 (ji11) p163 q163
             obtain rfl : ad161 = ad163 := (by injection e163)
             replace p163 := eq_true p163
             replace q163 := eq_true q163
             have p164 : 0 ≤ (x5_2 : Int) := of_decide_eq_true (by first | (with_reducible assumption) | assumption)
             have q164 : x5_2 < (x3_2.length : Int) := of_decide_eq_true (by first | (with_reducible assumption) | assumption)
             obtain ⟨ad164, e164, hx164_0⟩ := Kd.at_string (Kd.R_reads' HO_3.out).2.2 x5_2 p164 q164
             obtain rfl : ad161 = ad164 := (by injection e164)
             replace p164 := eq_true p164
             replace q164 := eq_true q164
             have p15 : 0 ≤ (x5_2 : Int) := of_decide_eq_true (by first | (with_reducible assumption) | assumption)
             have q15 : (x5_2 : Int) < ((x3_2.length : Int) : Int) := of_decide_eq_true (by first | (with_reducible assumption) | assumption)
             obtain ⟨go15, co15, eo15, gb15, gl15, cl15, HG15⟩ := Kd.R_form HO_3.out (by omega)
             (first | cases eo15 | (injection eo15 with ea_ en_ ec_; (first | subst ea_ | (injection ea_ with ea_; subst ea_)); subst ec_; clear en_))
             have GB15 := Aside0.mk gb15
             have GG15 := Aside0.mk HG15
             clear gb15 gl15 HG15
             (first | simp only [add_plain] at hx161_0 | skip)
             (first | simp only [add_plain] at hx162_0 | skip)
             (first | simp only [add_plain] at hx163_0 | skip)
             (first | simp only [add_plain] at hx164_0 | skip)
             obtain ⟨hx15_0, hf15_0⟩ := Kd.R_celln (⟨#[]⟩ : ByteArray) HO_3.out (x5_2 : Int) p15 q15
             replace p15 := eq_true p15
             replace q15 := eq_true q15
             have HP19 := Kd.R_putn HO_3.out (x5_2 : Int) (rdOf ByteArray.empty x3_2 (ji11))
             rw [← Ny165.out] at HP19
             have HQ19 := Aside0.mk HP19
             clear HP19
             have p16 : 0 ≤ ((ji11) : Int) := of_decide_eq_true (by first | (with_reducible assumption) | assumption)
             have q16 : ((ji11) : Int) < ((x3_2.length : Int) : Int) := of_decide_eq_true (by first | (with_reducible assumption) | assumption)
             obtain ⟨hx16_0, hf16_0⟩ := Kd.R_celln (⟨#[]⟩ : ByteArray) HQ19.out ((ji11) : Int) p16 q16
             replace p16 := eq_true p16
             replace q16 := eq_true q16
             have HP20 := Kd.R_putn HQ19.out ((ji11) : Int) (rdOf ByteArray.empty x3_2 x5_2)
             rw [← Ny166.out] at HP20
             have HQ20 := Aside0.mk HP20
             clear HP20
             refine start_ (n := 18) (S := fun w' => w'.cell? ⟨go15, ((ji11)).toNat, none⟩ = some (.string (rdOf ByteArray.empty x3_2 (ji11))) ∧ w'.cell? ⟨go15, (x5_2).toNat, none⟩ = some (.string (rdOf ByteArray.empty x3_2 x5_2))) (ds := [15, 17]) #[false, false, false, false, false, false, false, false, false, false, false, false, false, false, false, false, false, false] (by kernel_rfl) rfl rfl ⟨hx163_0, hx164_0⟩ (fun hHeld => ?_); refine with_tabW laws_sorted.tab8 laws_sorted.bits8 (fun HT_ HW_ => ?_)
             generalize w17.drew = w18 at HO_3 HB GG15 HQ19 HQ20 hf15_0 hf16_0 hx15_0 hx161_0 hx162_0 hx163_0 hx164_0 hx16_0 hHeld ⊢
             refine pure_ (i := 0) (N := some 32) (v := ?_) (a' := ?_) #[true, false, false, false, false, false, false, false, false, false, false, false, false, false, false, false, false, false] rfl rfl (any_of HT_.out (by kernel_rfl)) (fun _ _ _ h => h) (Or.inl ⟨by rfl, ?_⟩) ?_ ?_
             rotate_left
             ·intro w'
              go_simp
              with_reducible rfl
             rotate_left
             ·simp only [Act.put, List.setIfInBounds_toArray, List.set_cons_zero, List.set_cons_succ, i64_w, i32_w]
              rfl
             refine pure_ (i := 1) (N := some 33) (v := ?_) (a' := ?_) #[true, true, false, false, false, false, false, false, false, false, false, false, false, false, false, false, false, false] rfl rfl (any_of HT_.out (by kernel_rfl)) (fun _ _ _ h => h) (Or.inl ⟨by rfl, ?_⟩) ?_ ?_
             rotate_left
             ·intro w'
              go_simp
              with_reducible rfl
             rotate_left
             ·simp only [Act.put, List.setIfInBounds_toArray, List.set_cons_zero, List.set_cons_succ, i64_w, i32_w]
              rfl
             refine pure_ (i := 2) (N := some 34) (v := ?_) (a' := ?_) #[true, true, true, false, false, false, false, false, false, false, false, false, false, false, false, false, false, false] rfl rfl (any_of HT_.out (by kernel_rfl)) (fun _ _ _ h => h) (Or.inl ⟨by rfl, ?_⟩) ?_ ?_
             rotate_left
             ·intro w'
              go_simp
              with_reducible rfl
             rotate_left
             ·simp only [Act.put, List.setIfInBounds_toArray, List.set_cons_zero, List.set_cons_succ, i64_w, i32_w]
              rfl
             refine pure_ (i := 3) (N := some 35) (v := ?_) (a' := ?_) #[true, true, true, true, false, false, false, false, false, false, false, false, false, false, false, false, false, false] rfl rfl (any_of HT_.out (by kernel_rfl)) (fun _ _ _ h => h) (Or.inl ⟨by rfl, ?_⟩) ?_ ?_
             rotate_left
             ·intro w'
              go_simp
              with_reducible rfl
             rotate_left
             ·simp only [Act.put, List.setIfInBounds_toArray, List.set_cons_zero, List.set_cons_succ, i64_w, i32_w]
              rfl
             refine pure_ (i := 4) (N := some 36) (v := ?_) (a' := ?_) #[true, true, true, true, true, false, false, false, false, false, false, false, false, false, false, false, false, false] rfl rfl (any_of HT_.out (by kernel_rfl)) (fun _ _ _ h => h) (Or.inl ⟨by rfl, ?_⟩) ?_ ?_
             rotate_left
             ·intro w'
              go_simp
              with_reducible rfl
             rotate_left
             ·simp only [Act.put, List.setIfInBounds_toArray, List.set_cons_zero, List.set_cons_succ, i64_w, i32_w]
              rfl
             refine pure_ (i := 5) (N := some 37) (v := ?_) (a' := ?_) #[true, true, true, true, true, true, false, false, false, false, false, false, false, false, false, false, false, false] rfl rfl (any_of HT_.out (by kernel_rfl)) (fun _ _ _ h => h) (Or.inl ⟨by rfl, ?_⟩) ?_ ?_
             rotate_left
             ·intro w'
              go_simp
              with_reducible rfl
             rotate_left
             ·simp only [Act.put, List.setIfInBounds_toArray, List.set_cons_zero, List.set_cons_succ, i64_w, i32_w]
              rfl
             refine pure_ (i := 6) (N := some 38) (v := ?_) (a' := ?_) #[true, true, true, true, true, true, true, false, false, false, false, false, false, false, false, false, false, false] rfl rfl (any_of HT_.out (by kernel_rfl)) (fun _ _ _ h => h) (Or.inl ⟨by rfl, ?_⟩) ?_ ?_
             rotate_left
             ·intro w'
              go_simp
              with_reducible rfl
             rotate_left
             ·simp only [Act.put, List.setIfInBounds_toArray, List.set_cons_zero, List.set_cons_succ, i64_w, i32_w]
              rfl
             refine pure_ (i := 7) (N := some 39) (v := ?_) (a' := ?_) #[true, true, true, true, true, true, true, true, false, false, false, false, false, false, false, false, false, false] rfl rfl (any_of HT_.out (by kernel_rfl)) (fun _ _ _ h => h) (Or.inl ⟨by rfl, ?_⟩) ?_ ?_
             rotate_left
             ·intro w'
              go_simp
              with_reducible rfl
             rotate_left
             ·simp only [Act.put, List.setIfInBounds_toArray, List.set_cons_zero, List.set_cons_succ, i64_w, i32_w]
              rfl
             refine pure_ (i := 8) (N := some 40) (v := ?_) (a' := ?_) #[true, true, true, true, true, true, true, true, true, false, false, false, false, false, false, false, false, false] rfl rfl (any_of HT_.out (by kernel_rfl)) (fun _ _ _ h => h) (Or.inl ⟨by rfl, ?_⟩) ?_ ?_
             rotate_left
             ·intro w'
              go_simp
              with_reducible rfl
             rotate_left
             ·simp only [Act.put, List.setIfInBounds_toArray, List.set_cons_zero, List.set_cons_succ, i64_w, i32_w]
              rfl
             refine pure_ (i := 10) (N := some 42) (v := ?_) (a' := ?_) #[true, true, true, true, true, true, true, true, true, false, true, false, false, false, false, false, false, false] rfl rfl (any_of HT_.out (by kernel_rfl)) (fun _ _ _ h => h) (Or.inl ⟨by rfl, ?_⟩) ?_ ?_
             rotate_left
             ·intro w'
              go_simp
              with_reducible rfl
             rotate_left
             ·simp only [Act.put, List.setIfInBounds_toArray, List.set_cons_zero, List.set_cons_succ, i64_w, i32_w]
              rfl
             refine pure_ (i := 11) (N := some 43) (v := ?_) (a' := ?_) #[true, true, true, true, true, true, true, true, true, false, true, true, false, false, false, false, false, false] rfl rfl (any_of HT_.out (by kernel_rfl)) (fun _ _ _ h => h) (Or.inl ⟨by rfl, ?_⟩) ?_ ?_
             rotate_left
             ·intro w'
              go_simp
              with_reducible rfl
             rotate_left
             ·simp only [Act.put, List.setIfInBounds_toArray, List.set_cons_zero, List.set_cons_succ, i64_w, i32_w]
              rfl
             refine pure_ (i := 12) (N := some 44) (v := ?_) (a' := ?_) #[true, true, true, true, true, true, true, true, true, false, true, true, true, false, false, false, false, false] rfl rfl (any_of HT_.out (by kernel_rfl)) (fun _ _ _ h => h) (Or.inl ⟨by rfl, ?_⟩) ?_ ?_
             rotate_left
             ·intro w'
              go_simp
              with_reducible rfl
             rotate_left
             ·simp only [Act.put, List.setIfInBounds_toArray, List.set_cons_zero, List.set_cons_succ, i64_w, i32_w]
              rfl
             refine take_ (i := 9) (N := some 41) (v := ?_) (a' := ?_) #[true, true, true, true, true, true, true, true, true, true, true, true, true, false, false, false, false, false] rfl rfl (take_ofW HT_.out HW_.out (by kernel_rfl)) (fun _ _ _ h => h) (Or.inl ⟨by rfl, ?_⟩) hHeld ?_ ?_
             rotate_left
             ·rintro w' ⟨s0, s1⟩
              go_simp
              with_reducible rfl
             rotate_left
             ·simp only [Act.put, List.setIfInBounds_toArray, List.set_cons_zero, List.set_cons_succ, i64_w, i32_w]
              rfl
             refine take_ (i := 13) (N := some 45) (v := ?_) (a' := ?_) #[true, true, true, true, true, true, true, true, true, true, true, true, true, true, false, false, false, false] rfl rfl (take_ofW HT_.out HW_.out (by kernel_rfl)) (fun _ _ _ h => h) (Or.inl ⟨by rfl, ?_⟩) hHeld ?_ ?_
             rotate_left
             ·rintro w' ⟨s0, s1⟩
              go_simp
              with_reducible rfl
             rotate_left
             ·simp only [Act.put, List.setIfInBounds_toArray, List.set_cons_zero, List.set_cons_succ, i64_w, i32_w]
              rfl
             refine pure_ (i := 14) (N := some 46) (v := ?_) (a' := ?_) #[true, true, true, true, true, true, true, true, true, true, true, true, true, true, true, false, false, false] rfl rfl (any_of HT_.out (by kernel_rfl)) (fun _ _ _ h => h) (Or.inl ⟨by rfl, ?_⟩) ?_ ?_
             rotate_left
             ·intro w'
              go_simp
              with_reducible rfl
             rotate_left
             ·simp only [Act.put, List.setIfInBounds_toArray, List.set_cons_zero, List.set_cons_succ, i64_w, i32_w]
              rfl
             refine last_ (i := 15) (N := none) #[true, true, true, true, true, true, true, true, true, true, true, true, true, true, true, true, false, false] rfl rfl (one_of HT_.out (by kernel_rfl)) (by decide) (fun K hK => ?_)
             refine skip_ (w1 := ?_) (by rfl) rfl ?_ ?_
             rotate_left
             ·go_simp
              rfl
             refine hK.out _ _ ?_
             clear hK K
             refine pure_ (i := 16) (N := some 47) (v := ?_) (a' := ?_) #[true, true, true, true, true, true, true, true, true, true, true, true, true, true, true, true, true, false] rfl rfl (any_of HT_.out (by kernel_rfl)) (fun _ _ _ h => h) (Or.inl ⟨by rfl, ?_⟩) ?_ ?_
             rotate_left
             ·intro w'
              go_simp
              with_reducible rfl
             rotate_left
             ·simp only [Act.put, List.setIfInBounds_toArray, List.set_cons_zero, List.set_cons_succ, i64_w, i32_w]
              rfl
             refine last_ (i := 17) (N := none) #[true, true, true, true, true, true, true, true, true, true, true, true, true, true, true, true, true, true] rfl rfl (one_of HT_.out (by kernel_rfl)) (by decide) (fun K hK => ?_)
             refine skip_ (w1 := ?_) (by rfl) rfl ?_ ?_
             rotate_left
             ·go_simp
              rfl
             refine hK.out _ _ ?_
             clear hK K
             refine done_ (done_of HT_.out (by kernel_rfl)) ?_
             try go_wp2
             (try simp only [← hl3_2])
             go_roundg k2
             case measure => have := HK1.out; have := HK2.out; omega
             case rel => exact ⟨(y166), (ji11), (by first | rfl | (simp; done) | (simp only [← hji11] <;> (first | rfl | simp)) | (simp [*]; done)), H', ⟨by have := HK1.out; have := HK2.out; omega⟩, ⟨by (try simp only [hl3_2]); (with_reducible repeat (first | apply Kd.R_alloc | apply Kd.R_drewN | apply Kd.R_drew)); exact HQ20.out⟩, ⟨by repeat (first | (with_reducible first | exact HB.out | apply below_alloc | apply pw_below_drewN | apply below_drew1 | refine below_set ?_ GB15.out | refine below_set ?_ GB15.out) | exact HB.out)⟩⟩
            ·rw [if_neg c14] at H
             have c14b0 : (Op.bytesLess ((rdOf ByteArray.empty x3_2 x5_2).toList) ((rdOf ByteArray.empty x3_2 (ji11)).toList)) = false := by simpa using c14
             clear c14
             have H' := Aside0.mk H
             clear H
             try go_wp2
             have n0_ := Aside0.mk (Kd.R_drew HO_3.out)
             have n1_ := Aside0.mk (below_drew1 HB.out)
             clear HO_3
             clear HB
             have HO_3 := n0_
             have HB := n1_
             clear n0_ n1_
             have p161 : 0 ≤ (x5_2 : Int) := of_decide_eq_true (by first | (with_reducible assumption) | assumption)
             have q161 : x5_2 < (x3_2.length : Int) := of_decide_eq_true (by first | (with_reducible assumption) | assumption)
             obtain ⟨ad161, e161, hx161_0⟩ := Kd.at_string (Kd.R_reads' HO_3.out).2.2 x5_2 p161 q161
             cases e161
             replace p161 := eq_true p161
             replace q161 := eq_true q161
             have p162 : 0 ≤ ((ji11) : Int) := of_decide_eq_true (by first | (with_reducible assumption) | assumption)
             have q162 : (ji11) < (x3_2.length : Int) := of_decide_eq_true (by first | (with_reducible assumption) | assumption)
             obtain ⟨ad162, e162, hx162_0⟩ := Kd.at_string (Kd.R_reads' HO_3.out).2.2 (ji11) p162 q162
             obtain rfl : ad161 = ad162 := (by injection e162)
             replace p162 := eq_true p162
             replace q162 := eq_true q162
             refine start_ (n := 14) (S := fun w' => w'.cell? (ad161.add (x5_2).toNat) = some (.string (rdOf ByteArray.empty x3_2 x5_2)) ∧ w'.cell? (ad161.add ((ji11)).toNat) = some (.string (rdOf ByteArray.empty x3_2 (ji11)))) (ds := []) #[false, false, false, false, false, false, false, false, false, false, false, false, false, false] (by kernel_rfl) rfl rfl ⟨hx161_0, hx162_0⟩ (fun hHeld => ?_); refine with_tabW laws_sorted.tab6 laws_sorted.bits6 (fun HT_ HW_ => ?_)
             generalize wr.drew = w21 at HO_3 HB hx161_0 hx162_0 hHeld ⊢
             refine pure_ (i := 0) (N := some 16) (v := ?_) (a' := ?_) #[true, false, false, false, false, false, false, false, false, false, false, false, false, false] rfl rfl (any_of HT_.out (by kernel_rfl)) (fun _ _ _ h => h) (Or.inl ⟨by rfl, ?_⟩) ?_ ?_
             rotate_left
             ·intro w'
              go_simp
              with_reducible rfl
             rotate_left
             ·simp only [Act.put, List.setIfInBounds_toArray, List.set_cons_zero, List.set_cons_succ, i64_w, i32_w]
              rfl
             refine pure_ (i := 1) (N := some 17) (v := ?_) (a' := ?_) #[true, true, false, false, false, false, false, false, false, false, false, false, false, false] rfl rfl (any_of HT_.out (by kernel_rfl)) (fun _ _ _ h => h) (Or.inl ⟨by rfl, ?_⟩) ?_ ?_
             rotate_left
             ·intro w'
              go_simp
              with_reducible rfl
             rotate_left
             ·simp only [Act.put, List.setIfInBounds_toArray, List.set_cons_zero, List.set_cons_succ, i64_w, i32_w]
              rfl
             refine pure_ (i := 2) (N := some 18) (v := ?_) (a' := ?_) #[true, true, true, false, false, false, false, false, false, false, false, false, false, false] rfl rfl (any_of HT_.out (by kernel_rfl)) (fun _ _ _ h => h) (Or.inl ⟨by rfl, ?_⟩) ?_ ?_
             rotate_left
             ·intro w'
              go_simp
              with_reducible rfl
             rotate_left
             ·simp only [Act.put, List.setIfInBounds_toArray, List.set_cons_zero, List.set_cons_succ, i64_w, i32_w]
              rfl
             refine pure_ (i := 3) (N := some 19) (v := ?_) (a' := ?_) #[true, true, true, true, false, false, false, false, false, false, false, false, false, false] rfl rfl (any_of HT_.out (by kernel_rfl)) (fun _ _ _ h => h) (Or.inl ⟨by rfl, ?_⟩) ?_ ?_
             rotate_left
             ·intro w'
              go_simp
              with_reducible rfl
             rotate_left
             ·simp only [Act.put, List.setIfInBounds_toArray, List.set_cons_zero, List.set_cons_succ, i64_w, i32_w]
              rfl
             refine pure_ (i := 4) (N := some 20) (v := ?_) (a' := ?_) #[true, true, true, true, true, false, false, false, false, false, false, false, false, false] rfl rfl (any_of HT_.out (by kernel_rfl)) (fun _ _ _ h => h) (Or.inl ⟨by rfl, ?_⟩) ?_ ?_
             rotate_left
             ·intro w'
              go_simp
              with_reducible rfl
             rotate_left
             ·simp only [Act.put, List.setIfInBounds_toArray, List.set_cons_zero, List.set_cons_succ, i64_w, i32_w]
              rfl
             refine pure_ (i := 5) (N := some 21) (v := ?_) (a' := ?_) #[true, true, true, true, true, true, false, false, false, false, false, false, false, false] rfl rfl (any_of HT_.out (by kernel_rfl)) (fun _ _ _ h => h) (Or.inl ⟨by rfl, ?_⟩) ?_ ?_
             rotate_left
             ·intro w'
              go_simp
              with_reducible rfl
             rotate_left
             ·simp only [Act.put, List.setIfInBounds_toArray, List.set_cons_zero, List.set_cons_succ, i64_w, i32_w]
              rfl
             refine pure_ (i := 7) (N := some 23) (v := ?_) (a' := ?_) #[true, true, true, true, true, true, false, true, false, false, false, false, false, false] rfl rfl (any_of HT_.out (by kernel_rfl)) (fun _ _ _ h => h) (Or.inl ⟨by rfl, ?_⟩) ?_ ?_
             rotate_left
             ·intro w'
              go_simp
              with_reducible rfl
             rotate_left
             ·simp only [Act.put, List.setIfInBounds_toArray, List.set_cons_zero, List.set_cons_succ, i64_w, i32_w]
              rfl
             refine pure_ (i := 8) (N := some 24) (v := ?_) (a' := ?_) #[true, true, true, true, true, true, false, true, true, false, false, false, false, false] rfl rfl (any_of HT_.out (by kernel_rfl)) (fun _ _ _ h => h) (Or.inl ⟨by rfl, ?_⟩) ?_ ?_
             rotate_left
             ·intro w'
              go_simp
              with_reducible rfl
             rotate_left
             ·simp only [Act.put, List.setIfInBounds_toArray, List.set_cons_zero, List.set_cons_succ, i64_w, i32_w]
              rfl
             refine pure_ (i := 9) (N := some 25) (v := ?_) (a' := ?_) #[true, true, true, true, true, true, false, true, true, true, false, false, false, false] rfl rfl (any_of HT_.out (by kernel_rfl)) (fun _ _ _ h => h) (Or.inl ⟨by rfl, ?_⟩) ?_ ?_
             rotate_left
             ·intro w'
              go_simp
              with_reducible rfl
             rotate_left
             ·simp only [Act.put, List.setIfInBounds_toArray, List.set_cons_zero, List.set_cons_succ, i64_w, i32_w]
              rfl
             refine pure_ (i := 10) (N := some 26) (v := ?_) (a' := ?_) #[true, true, true, true, true, true, false, true, true, true, true, false, false, false] rfl rfl (any_of HT_.out (by kernel_rfl)) (fun _ _ _ h => h) (Or.inl ⟨by rfl, ?_⟩) ?_ ?_
             rotate_left
             ·intro w'
              go_simp
              with_reducible rfl
             rotate_left
             ·simp only [Act.put, List.setIfInBounds_toArray, List.set_cons_zero, List.set_cons_succ, i64_w, i32_w]
              rfl
             refine take_ (i := 6) (N := some 22) (v := ?_) (a' := ?_) #[true, true, true, true, true, true, true, true, true, true, true, false, false, false] rfl rfl (take_ofW HT_.out HW_.out (by kernel_rfl)) (fun _ _ _ h => h) (Or.inl ⟨by rfl, ?_⟩) hHeld ?_ ?_
             rotate_left
             ·rintro w' ⟨s0, s1⟩
              go_simp
              with_reducible rfl
             rotate_left
             ·simp only [Act.put, List.setIfInBounds_toArray, List.set_cons_zero, List.set_cons_succ, i64_w, i32_w]
              rfl
             refine take_ (i := 11) (N := some 27) (v := ?_) (a' := ?_) #[true, true, true, true, true, true, true, true, true, true, true, true, false, false] rfl rfl (take_ofW HT_.out HW_.out (by kernel_rfl)) (fun _ _ _ h => h) (Or.inl ⟨by rfl, ?_⟩) hHeld ?_ ?_
             rotate_left
             ·rintro w' ⟨s0, s1⟩
              go_simp
              with_reducible rfl
             rotate_left
             ·simp only [Act.put, List.setIfInBounds_toArray, List.set_cons_zero, List.set_cons_succ, i64_w, i32_w]
              rfl
             refine pure_ (i := 12) (N := some 28) (v := ?_) (a' := ?_) #[true, true, true, true, true, true, true, true, true, true, true, true, true, false] rfl rfl (any_of HT_.out (by kernel_rfl)) (fun _ _ _ h => h) (Or.inl ⟨by rfl, ?_⟩) ?_ ?_
             rotate_left
             ·intro w'
              go_simp
              with_reducible rfl
             rotate_left
             ·simp only [Act.put, List.setIfInBounds_toArray, List.set_cons_zero, List.set_cons_succ, i64_w, i32_w]
              rfl
             refine pure_ (i := 13) (N := some 29) (v := ?_) (a' := ?_) #[true, true, true, true, true, true, true, true, true, true, true, true, true, true] rfl rfl (any_of HT_.out (by kernel_rfl)) (fun _ _ _ h => h) (Or.inl ⟨by rfl, ?_⟩) ?_ ?_
             rotate_left
             ·intro w'
              go_simp
              with_reducible rfl
             rotate_left
             ·simp only [Act.put, List.setIfInBounds_toArray, List.set_cons_zero, List.set_cons_succ, i64_w, i32_w]
              rfl
             refine done_ (done_of HT_.out (by kernel_rfl)) ?_
             try go_wp2
             (try simp only [← hl3_2])
             go_roundg k2
             case measure => have := HK1.out; have := HK2.out; omega
             case rel => exact ⟨(x3_2), (wrap64 (x4_1 + 1)), (by first | rfl | (simp; done) | (simp [*]; done)), H', ⟨by have := HK1.out; have := HK2.out; omega⟩, ⟨by (try simp only [hl3_2]); (with_reducible repeat (first | apply Kd.R_alloc | apply Kd.R_drewN | apply Kd.R_drew)); exact HO_3.out⟩, ⟨by repeat (first | (with_reducible first | exact HB.out | apply below_alloc | apply pw_below_drewN | apply below_drew1) | exact HB.out)⟩⟩
           ·rw [if_neg c13] at H
            exact absurd H (by simp)
          ·rw [if_neg c12] at H
           exact absurd H (by simp)
         ·rw [if_neg c10] at H
          exact absurd H (by simp)
        ·rw [if_neg c9] at H
         exact absurd H (by simp)
       ·rw [if_neg c8] at H
        have c8b0 : decide (0 < x5_2) = false := decide_eq_false c8
        clear c8
        have H' := Aside0.mk H
        clear H
        try go_wp2
        have n0_ := Aside0.mk (Kd.R_drew HO_3.out)
        have n1_ := Aside0.mk (below_drew1 HB.out)
        clear HO_3
        clear HB
        have HO_3 := n0_
        have HB := n1_
        clear n0_ n1_
        refine start_ (n := 14) (S := fun w' => True) (ds := []) #[false, false, false, false, false, false, false, false, false, false, false, false, false, false] (by kernel_rfl) rfl rfl trivial (fun hHeld => ?_); refine with_tabW laws_sorted.tab6 laws_sorted.bits6 (fun HT_ HW_ => ?_)
        generalize wr.drew = w22 at HO_3 HB hHeld ⊢
        refine pure_ (i := 0) (N := some 16) (v := ?_) (a' := ?_) #[true, false, false, false, false, false, false, false, false, false, false, false, false, false] rfl rfl (any_of HT_.out (by kernel_rfl)) (fun _ _ _ h => h) (Or.inl ⟨by rfl, ?_⟩) ?_ ?_
        rotate_left
        ·intro w'
         go_simp
         with_reducible rfl
        rotate_left
        ·simp only [Act.put, List.setIfInBounds_toArray, List.set_cons_zero, List.set_cons_succ, i64_w, i32_w]
         rfl
        refine pure_ (i := 1) (N := some 17) (v := ?_) (a' := ?_) #[true, true, false, false, false, false, false, false, false, false, false, false, false, false] rfl rfl (any_of HT_.out (by kernel_rfl)) (fun _ _ _ h => h) (Or.inl ⟨by rfl, ?_⟩) ?_ ?_
        rotate_left
        ·intro w'
         go_simp
         with_reducible rfl
        rotate_left
        ·simp only [Act.put, List.setIfInBounds_toArray, List.set_cons_zero, List.set_cons_succ, i64_w, i32_w]
         rfl
        refine pure_ (i := 2) (N := some 18) (v := ?_) (a' := ?_) #[true, true, true, false, false, false, false, false, false, false, false, false, false, false] rfl rfl (any_of HT_.out (by kernel_rfl)) (fun _ _ _ h => h) (Or.inl ⟨by rfl, ?_⟩) ?_ ?_
        rotate_left
        ·intro w'
         go_simp
         with_reducible rfl
        rotate_left
        ·simp only [Act.put, List.setIfInBounds_toArray, List.set_cons_zero, List.set_cons_succ, i64_w, i32_w]
         rfl
        refine pure_ (i := 3) (N := some 19) (v := undef) (a' := ?_) #[true, true, true, true, false, false, false, false, false, false, false, false, false, false] rfl rfl (any_of HT_.out (by kernel_rfl)) (fun _ _ _ h => h) (Or.inr ⟨by rfl, rfl⟩) ?_ ?_
        rotate_left
        ·simp only [Act.put, List.setIfInBounds_toArray, List.set_cons_zero, List.set_cons_succ, i64_w, i32_w]
         rfl
        refine pure_ (i := 4) (N := some 20) (v := undef) (a' := ?_) #[true, true, true, true, true, false, false, false, false, false, false, false, false, false] rfl rfl (any_of HT_.out (by kernel_rfl)) (fun _ _ _ h => h) (Or.inr ⟨by rfl, rfl⟩) ?_ ?_
        rotate_left
        ·simp only [Act.put, List.setIfInBounds_toArray, List.set_cons_zero, List.set_cons_succ, i64_w, i32_w]
         rfl
        refine pure_ (i := 5) (N := some 21) (v := undef) (a' := ?_) #[true, true, true, true, true, true, false, false, false, false, false, false, false, false] rfl rfl (any_of HT_.out (by kernel_rfl)) (fun _ _ _ h => h) (Or.inr ⟨by rfl, rfl⟩) ?_ ?_
        rotate_left
        ·simp only [Act.put, List.setIfInBounds_toArray, List.set_cons_zero, List.set_cons_succ, i64_w, i32_w]
         rfl
        refine pure_ (i := 6) (N := some 22) (v := undef) (a' := ?_) #[true, true, true, true, true, true, true, false, false, false, false, false, false, false] rfl rfl (any_of HT_.out (by kernel_rfl)) (fun _ _ _ h => h) (Or.inr ⟨by rfl, rfl⟩) ?_ ?_
        rotate_left
        ·simp only [Act.put, List.setIfInBounds_toArray, List.set_cons_zero, List.set_cons_succ, i64_w, i32_w]
         rfl
        refine pure_ (i := 7) (N := some 23) (v := undef) (a' := ?_) #[true, true, true, true, true, true, true, true, false, false, false, false, false, false] rfl rfl (any_of HT_.out (by kernel_rfl)) (fun _ _ _ h => h) (Or.inr ⟨by rfl, rfl⟩) ?_ ?_
        rotate_left
        ·simp only [Act.put, List.setIfInBounds_toArray, List.set_cons_zero, List.set_cons_succ, i64_w, i32_w]
         rfl
        refine pure_ (i := 8) (N := some 24) (v := undef) (a' := ?_) #[true, true, true, true, true, true, true, true, true, false, false, false, false, false] rfl rfl (any_of HT_.out (by kernel_rfl)) (fun _ _ _ h => h) (Or.inr ⟨by rfl, rfl⟩) ?_ ?_
        rotate_left
        ·simp only [Act.put, List.setIfInBounds_toArray, List.set_cons_zero, List.set_cons_succ, i64_w, i32_w]
         rfl
        refine pure_ (i := 9) (N := some 25) (v := undef) (a' := ?_) #[true, true, true, true, true, true, true, true, true, true, false, false, false, false] rfl rfl (any_of HT_.out (by kernel_rfl)) (fun _ _ _ h => h) (Or.inr ⟨by rfl, rfl⟩) ?_ ?_
        rotate_left
        ·simp only [Act.put, List.setIfInBounds_toArray, List.set_cons_zero, List.set_cons_succ, i64_w, i32_w]
         rfl
        refine pure_ (i := 10) (N := some 26) (v := undef) (a' := ?_) #[true, true, true, true, true, true, true, true, true, true, true, false, false, false] rfl rfl (any_of HT_.out (by kernel_rfl)) (fun _ _ _ h => h) (Or.inr ⟨by rfl, rfl⟩) ?_ ?_
        rotate_left
        ·simp only [Act.put, List.setIfInBounds_toArray, List.set_cons_zero, List.set_cons_succ, i64_w, i32_w]
         rfl
        refine pure_ (i := 11) (N := some 27) (v := undef) (a' := ?_) #[true, true, true, true, true, true, true, true, true, true, true, true, false, false] rfl rfl (any_of HT_.out (by kernel_rfl)) (fun _ _ _ h => h) (Or.inr ⟨by rfl, rfl⟩) ?_ ?_
        rotate_left
        ·simp only [Act.put, List.setIfInBounds_toArray, List.set_cons_zero, List.set_cons_succ, i64_w, i32_w]
         rfl
        refine pure_ (i := 12) (N := some 28) (v := undef) (a' := ?_) #[true, true, true, true, true, true, true, true, true, true, true, true, true, false] rfl rfl (any_of HT_.out (by kernel_rfl)) (fun _ _ _ h => h) (Or.inr ⟨by rfl, rfl⟩) ?_ ?_
        rotate_left
        ·simp only [Act.put, List.setIfInBounds_toArray, List.set_cons_zero, List.set_cons_succ, i64_w, i32_w]
         rfl
        refine pure_ (i := 13) (N := some 29) (v := ?_) (a' := ?_) #[true, true, true, true, true, true, true, true, true, true, true, true, true, true] rfl rfl (any_of HT_.out (by kernel_rfl)) (fun _ _ _ h => h) (Or.inl ⟨by rfl, ?_⟩) ?_ ?_
        rotate_left
        ·intro w'
         go_simp
         with_reducible rfl
        rotate_left
        ·simp only [Act.put, List.setIfInBounds_toArray, List.set_cons_zero, List.set_cons_succ, i64_w, i32_w]
         rfl
        refine done_ (done_of HT_.out (by kernel_rfl)) ?_
        try go_wp2
        (try simp only [← hl3_2])
        go_roundg k2
        case measure => have := HK1.out; have := HK2.out; omega
        case rel => exact ⟨(x3_2), (wrap64 (x4_1 + 1)), (by first | rfl | (simp; done) | (simp [*]; done)), H', ⟨by have := HK1.out; have := HK2.out; omega⟩, ⟨by (try simp only [hl3_2]); (with_reducible repeat (first | apply Kd.R_alloc | apply Kd.R_drewN | apply Kd.R_drew)); exact HO_3.out⟩, ⟨by repeat (first | (with_reducible first | exact HB.out | apply below_alloc | apply pw_below_drewN | apply below_drew1) | exact HB.out)⟩⟩
    ·rw [if_neg c6] at H
     have c6b0 : decide (x4_1 < (x3_1.length : Int)) = false := decide_eq_false c6
     clear c6
     obtain rfl := Option.some.inj H
     obtain ⟨Ao23, co23, eo23⟩ := Kd.R_slice HO_3.out
     subst eo23
     go_wp2
     go_ret
     exact ⟨_, by first | rfl | (simp [errW_none, errW_some] <;> rfl) | (simp [*, errW_none, errW_some] <;> rfl), by (with_reducible repeat (first | apply Kd.R_alloc | apply Kd.R_drewN | apply Kd.R_drew)); exact HO_3.out, by repeat (first | (with_reducible first | exact HB.out | apply below_alloc | apply pw_below_drewN | apply below_drew1) | exact HB.out)⟩
 ·rw [if_neg c2] at H
  exact absurd H (by simp)

/-! ### laws_sameSet: function 27 -/
def laws_sameSet.f (k : Nat) (l0 : List ByteArray) (l1 : List ByteArray) : Option (Bool) := (laws_sorted.f k l0).bind fun t167 => ((laws_sorted.f k l1).bind fun t170 => ((spec_SameTexts.f k t167 t170).bind fun t173 => (some t173)))
theorem laws_sameSet.mono : ∀ a0 a1 k, LeO (laws_sameSet.f k a0 a1) (laws_sameSet.f (k + 1) a0 a1) := by
 intro a0 a1 k
 unfold laws_sameSet.f
 repeat' first
   | (with_reducible exact laws_sorted.mono _ _)
   | (with_reducible exact spec_SameTexts.mono _ _ _)
   | (with_reducible exact LeO.refl _)
   | (with_reducible exact LeO.none _)
   | (with_reducible refine LeO.ite ?_ ?_)
   | (with_reducible refine LeO.bind ?_ (fun _ => ?_))
   | exact laws_sorted.mono _ _
   | exact spec_SameTexts.mono _ _ _
   | exact LeO.none _
   | refine LeO.ite ?_ ?_
   | refine LeO.bind ?_ (fun _ => ?_)
set_option maxHeartbeats 8000000 in
set_option maxRecDepth 100000 in
theorem laws_sameSet.calls (k : Nat) (A0 : Option Addr) (c0 : Nat) (l0 : List ByteArray) (A1 : Option Addr) (c1 : Nat) (l1 : List ByteArray) (r : Bool) (w : World) (hr0 : Kd.C Kd.string w A0 l0.length l0) (hc0 : l0.length ≤ c0) (hr1 : Kd.C Kd.string w A1 l1.length l1) (hc1 : l1.length ≤ c1) (h : laws_sameSet.f k l0 l1 = some r) :
  Calls Tryz.prog 27 #[.slice A0 l0.length c0, .slice A1 l1.length c1] w fun e w' => e = .returned (.bool r) ∧ Below w.heap.size w w' := by
 have HR0 := Aside0.mk hr0
 have HC0 := Aside0.mk hc0
 clear hr0 hc0
 have HR1 := Aside0.mk hr1
 have HC1 := Aside0.mk hc1
 clear hr1 hc1
 have HB := Aside0.mk (Below.refl w.heap.size w)
 have H : ((laws_sorted.f k l0).bind fun t167 => ((laws_sorted.f k l1).bind fun t170 => ((spec_SameTexts.f k t167 t170).bind fun t173 => (some t173)))) = some r := h
 clear h
 replace H := Option.bind_eq_some_iff.mp H
 obtain ⟨t167, A30, H⟩ := H
 replace H : ((laws_sorted.f k l1).bind fun t170 => ((spec_SameTexts.f k t167 t170).bind fun t173 => (some t173))) = some r := H
 have A3 := Aside0.mk A30
 clear A30
 replace H := Option.bind_eq_some_iff.mp H
 obtain ⟨t170, A40, H⟩ := H
 replace H : ((spec_SameTexts.f k t167 t170).bind fun t173 => (some t173)) = some r := H
 have A4 := Aside0.mk A40
 clear A40
 replace H := Option.bind_eq_some_iff.mp H
 obtain ⟨t173, A50, H⟩ := H
 replace H : (some t173) = some r := H
 have A5 := Aside0.mk A50
 clear A50
 obtain rfl := Option.some.inj H
 go_enter Tryz.func27, Tryz.ntmps27
 go_wp2_with (first | ((with_reducible refine gate_callee (f := 37) rfl ?_); refine goesL_ (some 6) rfl rfl Tryz.func37 (by kernel_rfl) rfl #[.slice A0 l0.length c0] rfl (by (try simp only [List.map_toArray, List.map_cons, List.map_nil]); first | done | rfl | (simp only [List.length_drop, List.length_take]; rfl)) ?_; (with_reducible refine (laws_sorted.calls k _ _ l0 t167 _ ?side1 ?side2 A3.out).mono ?_); (case side1 => repeat (first | exact HR0.out | (with_reducible refine Kd.C_alloc ?_ _) | (with_reducible refine Kd.C_drewN ?_ _) | (with_reducible refine Kd.C_drew ?_))); (case side2 => exact HC0.out); rintro e w6 ⟨v168, rfl, ho0, hb⟩; refine ⟨_, rfl, ?_⟩; have n0_ := Aside0.mk (Kd.R_lower ho0 (below_size (by repeat (first | (with_reducible first | exact HB.out | apply below_alloc | apply pw_below_drewN | apply below_drew1) | exact HB.out)))); have n1_ := Aside0.mk (below_step (by repeat (first | (with_reducible first | exact HB.out | apply below_alloc | apply pw_below_drewN | apply below_drew1) | exact HB.out)) hb); clear HB; have HO169 := n0_; have HB := n1_; clear n0_ n1_; (try clear hb); (try clear hb2); (try clear hk); (try clear hi); (try clear ho0)) | ((with_reducible refine gate_callee (f := 37) rfl ?_); refine goesL_ (some 8) rfl rfl Tryz.func37 (by kernel_rfl) rfl #[.slice A1 l1.length c1] rfl (by (try simp only [List.map_toArray, List.map_cons, List.map_nil]); first | done | rfl | (simp only [List.length_drop, List.length_take]; rfl)) ?_; (with_reducible refine (laws_sorted.calls k _ _ l1 t170 _ ?side1 ?side2 A4.out).mono ?_); (case side1 => repeat (first | exact (Kd.C_below HR1.out HB.out) | (with_reducible refine Kd.C_alloc ?_ _) | (with_reducible refine Kd.C_drewN ?_ _) | (with_reducible refine Kd.C_drew ?_))); (case side2 => exact HC1.out); rintro e w7 ⟨v171, rfl, ho0, hb⟩; refine ⟨_, rfl, ?_⟩; have n0_ := Aside0.mk (Kd.R_elder' (by (with_reducible repeat (first | apply Kd.R_alloc | apply Kd.R_drewN | apply Kd.R_drew)); exact HO169.out) (Kd.R_base ho0) hb); have n1_ := Aside0.mk (Kd.R_lower (Kd.R_new' ho0 (Kd.R_lt (by (with_reducible repeat (first | apply Kd.R_alloc | apply Kd.R_drewN | apply Kd.R_drew)); exact HO169.out))) (below_size (by repeat (first | (with_reducible first | exact HB.out | apply below_alloc | apply pw_below_drewN | apply below_drew1) | exact HB.out)))); have n2_ := Aside0.mk (below_step (by repeat (first | (with_reducible first | exact HB.out | apply below_alloc | apply pw_below_drewN | apply below_drew1) | exact HB.out)) hb); clear HO169; clear HB; have HO169 := n0_; have HO172 := n1_; have HB := n2_; clear n0_ n1_ n2_; (try clear hb); (try clear hb2); (try clear hk); (try clear hi); (try clear ho0); obtain ⟨Ao8, co8, eo8⟩ := Kd.R_slice HO169.out; subst eo8; obtain ⟨Ao9, co9, eo9⟩ := Kd.R_slice HO172.out; subst eo9) | ((with_reducible refine gate_callee (f := 36) rfl ?_); refine goesL_ (some 9) rfl rfl Tryz.func36 (by kernel_rfl) rfl #[.slice Ao8 t167.length co8, .slice Ao9 t170.length co9] rfl (by (try simp only [List.map_toArray, List.map_cons, List.map_nil]); first | done | rfl | (simp only [List.length_drop, List.length_take]; rfl)) ?_; (with_reducible refine (spec_SameTexts.calls k _ _ t167 _ _ t170 t173 _ ?side1 ?side2 ?side3 ?side4 A5.out).mono ?_); (case side1 => repeat (first | exact (Kd.R_reads' HO169.out).2.2 | (with_reducible refine Kd.C_alloc ?_ _) | (with_reducible refine Kd.C_drewN ?_ _) | (with_reducible refine Kd.C_drew ?_))); (case side2 => exact (Kd.R_reads' HO169.out).2.1); (case side3 => repeat (first | exact (Kd.R_reads' HO172.out).2.2 | (with_reducible refine Kd.C_alloc ?_ _) | (with_reducible refine Kd.C_drewN ?_ _) | (with_reducible refine Kd.C_drew ?_))); (case side4 => exact (Kd.R_reads' HO172.out).2.1); rintro e w' ⟨rfl, ⟨nd, rfl⟩⟩; refine ⟨_, rfl, ?_⟩))
 go_ret
 exact ⟨by first | rfl | (simp [errW_none, errW_some] <;> rfl) | (simp [*, errW_none, errW_some] <;> rfl), by repeat (first | (with_reducible first | exact HB.out | apply below_alloc | apply pw_below_drewN | apply below_drew1) | exact HB.out)⟩

end Go.Proofs.YtjijaciaioieaaaGreat.PFnRolesOrder
