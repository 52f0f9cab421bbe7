/- The machine side of laws.FnEvaled: each function of this text answers what its Lean function answers (written for this claim by a program of this session over the kit's print; no condition beyond what each theorem says). -/
import Derived.Test.YtnbcohabllkneaaOFnEvaledx0
import Derived.Test.YtnbcohabllkneaaOFnEvaledx3
namespace Go.Proofs.Ytnbcohabllkneaa.PFnEvaled
open Go.RowKit Go.Proofs.YtnbcohabllkneaaW.PrintWords Go.Proofs.YtnbcohabllkneaaW.PrintLast Go.Proofs.YtnbcohabllkneaaW.PrintMore
attribute [local go_sem] max2_int min2_int max_two min_two max_three min_three max_four min_four   -- for this text's walks alone
set_option linter.unusedVariables false
set_option linter.unusedSimpArgs false

/-! ### util_zzReplaceEvals: function 60 -/
def util_zzReplaceEvals.l0 : Nat → ByteArray → ByteArray → ByteArray → Int → List (S55) → Int → Int → Option (ByteArray)
  | 0, _, _, _, _, _, _, _ => none
  | k + 1, x0, x1, x5, x6, x10, x11, x12 => if x12 < x11 then (if 0 ≤ x12 then (if x12 < (x10.length : Int) then (if 0 ≤ x6 then (if x6 ≤ ((rd_T55 x10 x12).f0) then (if ((rd_T55 x10 x12).f0) ≤ (x0.size : Int) then (if (x0.extract (x6 : Int).toNat (((rd_T55 x10 x12).f0) : Int).toNat).size + x1.size ≤ 9223372036854775807 then (if x5.size + ((x0.extract (x6 : Int).toNat (((rd_T55 x10 x12).f0) : Int).toNat) ++ x1).size ≤ 9223372036854775807 then (util_zzReplaceEvals.l0 k x0 x1 (x5 ++ ((x0.extract (x6 : Int).toNat (((rd_T55 x10 x12).f0) : Int).toNat) ++ x1)) ((rd_T55 x10 x12).f1) x10 x11 (wrap64 (x12 + 1))) else (none)) else (none)) else (none)) else (none)) else (none)) else (none)) else (none)) else (if 0 ≤ x6 then (if x6 ≤ (x0.size : Int) then (if x5.size + (x0.extract (x6 : Int).toNat x0.size).size ≤ 9223372036854775807 then (some (x5 ++ (x0.extract (x6 : Int).toNat x0.size))) else (none)) else (none)) else (none))
def util_zzReplaceEvals.f (k : Nat) (a0 : ByteArray) (a1 : ByteArray) : Option (ByteArray) := (util_zzEvals.f k a0).bind fun t127 => (util_zzReplaceEvals.l0 k a0 a1 (⟨#[]⟩ : ByteArray) 0 t127 (t127.length : Int) 0)
theorem util_zzReplaceEvals.mono_l : ∀ k, (∀ y0 y1 y2 y3 y4 y5 y6, LeO (util_zzReplaceEvals.l0 k y0 y1 y2 y3 y4 y5 y6) (util_zzReplaceEvals.l0 (k + 1) y0 y1 y2 y3 y4 y5 y6))
  | 0 => fun _ _ _ _ _ _ _ r h => by simp [util_zzReplaceEvals.l0] at h
  | k + 1 => by
    have ih0 := util_zzReplaceEvals.mono_l k
    · intro y0 y1 y2 y3 y4 y5 y6
      unfold util_zzReplaceEvals.l0
      repeat' first
      | (with_reducible exact ih0 _ _ _ _ _ _ _)
      | (with_reducible exact util_zzEvals.mono _ _)
      | (with_reducible exact LeO.refl _)
      | (with_reducible exact LeO.none _)
      | (with_reducible refine LeO.ite ?_ ?_)
      | (with_reducible refine LeO.bind ?_ (fun _ => ?_))
      | exact ih0 _ _ _ _ _ _ _
      | exact util_zzEvals.mono _ _
      | exact LeO.none _
      | refine LeO.ite ?_ ?_
      | refine LeO.bind ?_ (fun _ => ?_)
theorem util_zzReplaceEvals.mono : ∀ a0 a1 k, LeO (util_zzReplaceEvals.f k a0 a1) (util_zzReplaceEvals.f (k + 1) a0 a1) := by
  intro a0 a1 k
  have ih0 := util_zzReplaceEvals.mono_l k
  unfold util_zzReplaceEvals.f
  repeat' first
      | (with_reducible exact ih0 _ _ _ _ _ _ _)
      | (with_reducible exact util_zzEvals.mono _ _)
      | (with_reducible exact LeO.refl _)
      | (with_reducible exact LeO.none _)
      | (with_reducible refine LeO.ite ?_ ?_)
      | (with_reducible refine LeO.bind ?_ (fun _ => ?_))
      | exact ih0 _ _ _ _ _ _ _
      | exact util_zzEvals.mono _ _
      | exact LeO.none _
      | refine LeO.ite ?_ ?_
      | refine LeO.bind ?_ (fun _ => ?_)
set_option maxHeartbeats 8000000 in
set_option maxRecDepth 100000 in
theorem util_zzReplaceEvals.calls (k : Nat) (a0 : ByteArray) (a1 : ByteArray) (r : ByteArray) (w : World) (h : util_zzReplaceEvals.f k a0 a1 = some r) :
    Calls Try.prog 60 #[.string a0, .string a1] w fun e w' => e = .returned (.string r) ∧ Below w.heap.size w w' := by
  have hu55 := Try.underlying55
  have HB := Aside0.mk (Below.refl w.heap.size w)
  have H : ((util_zzEvals.f k a0).bind fun t127 => (util_zzReplaceEvals.l0 k a0 a1 (⟨#[]⟩ : ByteArray) 0 t127 (t127.length : Int) 0)) = some r := h
  clear h
  replace H := Option.bind_eq_some_iff.mp H
  obtain ⟨t127, A30, H⟩ := H
  replace H : (util_zzReplaceEvals.l0 k a0 a1 (⟨#[]⟩ : ByteArray) 0 t127 (t127.length : Int) 0) = some r := H
  have A3 := Aside0.mk A30
  clear A30
  have H' := Aside0.mk H
  clear H
  go_enter Try.func60, Try.ntmps60
  go_wp2_with (first | ((with_reducible refine gate_callee (f := 62) rfl ?_); refine goesL_ (some 10) rfl rfl Try.func62 (by kernel_rfl) rfl #[.string a0] rfl (by (try simp only [List.map_toArray, List.map_cons, List.map_nil]); first | done | rfl | (simp only [List.length_drop, List.length_take]; rfl)) ?_; (with_reducible refine (util_zzEvals.calls k a0 t127 _ A3.out).mono ?_); rintro e w4 ⟨v128, rfl, ho0, hb⟩; refine ⟨_, rfl, ?_⟩; have n0_ := Aside0.mk (Kd.R_lower ho0 (below_size (by repeat (first | (with_reducible first | exact HB.out | apply below_alloc | apply pw_below_drewN | apply below_drew1) | exact HB.out)))); have n1_ := Aside0.mk (below_step (by repeat (first | (with_reducible first | exact HB.out | apply below_alloc | apply pw_below_drewN | apply below_drew1) | exact HB.out)) hb); clear HB; have HO129 := n0_; have HB := n1_; clear n0_ n1_; (try clear hb); (try clear hb2); (try clear hk); (try clear hi); (try clear ho0); obtain ⟨Ao5, co5, eo5⟩ := Kd.R_slice HO129.out; subst eo5))
  go_loopg [5, 6, 12] k (fun kq v5 v6 v12 w' => ∃ (x5_1 : ByteArray) (x6_1 : Int) (x12_1 : Int), v5 = .string x5_1 ∧ v6 = .int .i64 x6_1 ∧ v12 = .int .i64 x12_1 ∧ Aside0 (util_zzReplaceEvals.l0 kq a0 a1 x5_1 x6_1 t127 (t127.length : Int) x12_1 = some r) ∧ Aside0 (kq ≤ k) ∧ Aside0 (Kd.R k55 55 w' w.heap.size (fun _ => True) (.slice Ao5 t127.length co5) t127) ∧ Aside0 (Below w.heap.size w w'))
  case atStart => exact ⟨((⟨#[]⟩ : ByteArray)), (0), (0), (by first | rfl | (simp; done) | (simp [*]; done)), (by first | rfl | (simp; done) | (simp [*]; done)), (by first | rfl | (simp; done) | (simp [*]; done)), H', ⟨Nat.le_refl _⟩, ⟨by (with_reducible repeat (first | apply Kd.R_alloc | apply Kd.R_drewN | apply Kd.R_drew)); exact HO129.out⟩, ⟨by repeat (first | (with_reducible first | exact HB.out | apply below_alloc | apply pw_below_drewN | apply below_drew1) | exact HB.out)⟩⟩
  case round =>
    clear H'
    try clear p2
    obtain ⟨x5_1, x6_1, x12_1, rfl, rfl, rfl, HA, HK1, HO_10, HB⟩ := hrel
    cases gk with
    | zero => exact absurd HA.out (by simp [util_zzReplaceEvals.l0])
    | succ k1 =>
      have H := HA.out
      clear HA
      simp only [util_zzReplaceEvals.l0] at H
      by_cases c6 : x12_1 < (t127.length : Int)
      · rw [if_pos c6] at H
        have c6b0 : decide (x12_1 < (t127.length : Int)) = true := decide_eq_true c6
        clear c6
        by_cases c7 : 0 ≤ x12_1
        · rw [if_pos c7] at H
          have c7b0 : decide (0 ≤ x12_1) = true := decide_eq_true c7
          clear c7
          by_cases c8 : x12_1 < (t127.length : Int)
          · rw [if_pos c8] at H
            have c8b0 : decide (x12_1 < (t127.length : Int)) = true := decide_eq_true c8
            clear c8
            by_cases c9 : 0 ≤ x6_1
            · rw [if_pos c9] at H
              have c9b0 := eq_true c9
              have c9b1 : decide (0 ≤ x6_1) = true := decide_eq_true c9
              clear c9
              by_cases c10 : x6_1 ≤ ((rd_T55 t127 x12_1).f0)
              · rw [if_pos c10] at H
                have c10b0 := eq_true c10
                have c10b1 : decide (x6_1 ≤ ((rd_T55 t127 x12_1).f0)) = true := decide_eq_true c10
                clear c10
                by_cases c11 : ((rd_T55 t127 x12_1).f0) ≤ (a0.size : Int)
                · rw [if_pos c11] at H
                  have c11b0 := eq_true c11
                  have c11b1 : decide (((rd_T55 t127 x12_1).f0) ≤ (a0.size : Int)) = true := decide_eq_true c11
                  clear c11
                  by_cases c12 : (a0.extract (x6_1 : Int).toNat (((rd_T55 t127 x12_1).f0) : Int).toNat).size + a1.size ≤ 9223372036854775807
                  · rw [if_pos c12] at H
                    have c12m : (9223372036854775807 < ((((rd_T55 t127 x12_1).f0) : Int).toNat - (x6_1 : Int).toNat) + a1.size) = False := eq_false (by have q := c12; simp only [ByteArray.size_append, ByteArray.size_extract] at q; have := of_decide_eq_true c11b1; omega)
                    have c12b0 := eq_true c12
                    have c12b1 : decide ((a0.extract (x6_1 : Int).toNat (((rd_T55 t127 x12_1).f0) : Int).toNat).size + a1.size ≤ 9223372036854775807) = true := decide_eq_true c12
                    try have c12b2 : (9223372036854775807 < (a0.extract (x6_1 : Int).toNat (((rd_T55 t127 x12_1).f0) : Int).toNat).size + a1.size) = False := eq_false (Nat.not_lt.2 c12)
                    by_cases c13 : x5_1.size + ((a0.extract (x6_1 : Int).toNat (((rd_T55 t127 x12_1).f0) : Int).toNat) ++ a1).size ≤ 9223372036854775807
                    · rw [if_pos c13] at H
                      have c13n := c13
                      simp only [ByteArray.size_append, Int.natCast_add] at c13n
                      have c13m : (9223372036854775807 < x5_1.size + (((((rd_T55 t127 x12_1).f0) : Int).toNat - (x6_1 : Int).toNat) + a1.size)) = False := eq_false (by have q := c13; simp only [ByteArray.size_append, ByteArray.size_extract] at q; have := of_decide_eq_true c11b1; omega)
                      have c13b0 := eq_true c13
                      have c13b1 : decide (x5_1.size + ((a0.extract (x6_1 : Int).toNat (((rd_T55 t127 x12_1).f0) : Int).toNat) ++ a1).size ≤ 9223372036854775807) = true := decide_eq_true c13
                      try have c13b2 : (9223372036854775807 < x5_1.size + ((a0.extract (x6_1 : Int).toNat (((rd_T55 t127 x12_1).f0) : Int).toNat) ++ a1).size) = False := eq_false (Nat.not_lt.2 c13)
                      have H' := Aside0.mk H
                      clear H
                      have p130 : 0 ≤ (x12_1 : Int) := of_decide_eq_true (by first | (with_reducible assumption) | assumption)
                      have q130 : x12_1 < (t127.length : Int) := of_decide_eq_true (by first | (with_reducible assumption) | assumption)
                      obtain ⟨ad130, e130, hx130_0, hx130_1⟩ := at_T55 (Kd.R_reads' HO_10.out).2.2 x12_1 p130 q130
                      cases e130
                      replace p130 := eq_true p130
                      replace q130 := eq_true q130
                      go_wp2_with (first | ((with_reducible refine gate_dst (N := 8) rfl ?_); refine box_event ?hg (N := 8) ?hd (cs := #[.int .i64 0, .int .i64 0]) (t := 55) ?hr ?_; (case hd => rfl); (case hg => rfl); (case hr => first | (go_simp; done) | (go_simp; rfl)); intro gb131 hg w14 hbox hb; have n0_ := Aside0.mk (Kd.R_below (Kd.R_elderB (by (with_reducible repeat (first | apply Kd.R_alloc | apply Kd.R_drewN | apply Kd.R_drew)); exact HO_10.out) gb131 (Nat.le_of_eq hg.symm)) hb); have n1_ := Aside0.mk (below_step (by repeat (first | (with_reducible first | exact HB.out | apply below_alloc | apply pw_below_drewN | apply below_drew1) | exact HB.out)) hb); have n2_ := Aside0.mk (hbox); have n3_ := Aside0.mk ((by rw [hg]; exact (below_size (by repeat (first | (with_reducible first | exact HB.out | apply below_alloc | apply pw_below_drewN | apply below_drew1) | exact HB.out))) : w.heap.size ≤ gb131)); have n4_ := Aside0.mk ((by rw [hg]; exact (below_size (by repeat (first | (with_reducible first | exact HB.out | apply below_alloc | apply pw_below_drewN | apply below_drew1) | exact HB.out))) : w.heap.size ≤ gb131)); clear HO_10; clear HB; have HO_10 := n0_; have HB := n1_; have BK131 := n2_; have GW131 := n3_; have GE131 := n4_; clear n0_ n1_ n2_ n3_ n4_; clear hb hbox hg; have hcz15_0 : w14.cell? ⟨gb131, 0, none⟩ = some (.int .i64 0) := (blk_cell BK131.out 0).trans rfl; have hcz15_1 : w14.cell? ⟨gb131, 1, none⟩ = some (.int .i64 0) := (blk_cell BK131.out 1).trans rfl; have hfz15_0 := blk_frozen BK131.out 0; have hfz15_1 := blk_frozen BK131.out 1))
                      go_roundg k1
                      case measure => have := HK1.out; omega
                      case rel => exact ⟨(x5_1 ++ ((a0.extract (x6_1 : Int).toNat (((rd_T55 t127 x12_1).f0) : Int).toNat) ++ a1)), ((rd_T55 t127 x12_1).f1), (wrap64 (x12_1 + 1)), (by first | rfl | (simp; done) | (simp [*]; done)), (by first | rfl | (simp; done) | (simp [*]; done)), (by first | rfl | (simp; done) | (simp [*]; done)), H', ⟨by have := HK1.out; omega⟩, ⟨by (with_reducible repeat (first | apply Kd.R_alloc | apply Kd.R_drewN | apply Kd.R_drew)); exact Kd.R_mono (Kd.R_far (p := ⟨gb131, 1, none⟩) (Kd.R_far (p := ⟨gb131, 0, none⟩) (Kd.R_mono HO_10.out (fun k_ hk => (⟨hk, hk.2⟩ : _ ∧ k_ ≠ gb131))) (fun _ hk => hk.2) (.int .i64 ((rd_T55 t127 x12_1).f0))) (fun _ hk => hk.2) (.int .i64 ((rd_T55 t127 x12_1).f1))) (fun _ hk => trivial)⟩, ⟨by repeat (first | (with_reducible first | exact HB.out | apply below_alloc | apply pw_below_drewN | apply below_drew1 | refine below_set ?_ GE131.out) | exact HB.out)⟩⟩
                    · rw [if_neg c13] at H
                      have c13n := c13
                      simp only [ByteArray.size_append, Int.natCast_add] at c13n
                      exact absurd H (by simp)
                  · rw [if_neg c12] at H
                    exact absurd H (by simp)
                · rw [if_neg c11] at H
                  exact absurd H (by simp)
              · rw [if_neg c10] at H
                exact absurd H (by simp)
            · rw [if_neg c9] at H
              exact absurd H (by simp)
          · rw [if_neg c8] at H
            exact absurd H (by simp)
        · rw [if_neg c7] at H
          exact absurd H (by simp)
      · rw [if_neg c6] at H
        have c6b0 : decide (x12_1 < (t127.length : Int)) = false := decide_eq_false c6
        clear c6
        by_cases c16 : 0 ≤ x6_1
        · rw [if_pos c16] at H
          have c16b0 := eq_true c16
          have c16b1 : decide (0 ≤ x6_1) = true := decide_eq_true c16
          clear c16
          by_cases c17 : x6_1 ≤ (a0.size : Int)
          · rw [if_pos c17] at H
            have c17b0 := eq_true c17
            have c17b1 : decide (x6_1 ≤ (a0.size : Int)) = true := decide_eq_true c17
            clear c17
            by_cases c18 : x5_1.size + (a0.extract (x6_1 : Int).toNat a0.size).size ≤ 9223372036854775807
            · rw [if_pos c18] at H
              have c18b0 := eq_true c18
              have c18b1 : decide (x5_1.size + (a0.extract (x6_1 : Int).toNat a0.size).size ≤ 9223372036854775807) = true := decide_eq_true c18
              try have c18b2 : (9223372036854775807 < x5_1.size + (a0.extract (x6_1 : Int).toNat a0.size).size) = False := eq_false (Nat.not_lt.2 c18)
              obtain rfl := Option.some.inj H
              go_wp2
              go_ret
              exact ⟨by first | rfl | (simp [errW_none, errW_some] <;> rfl) | (simp [*, errW_none, errW_some] <;> rfl), by repeat (first | (with_reducible first | exact HB.out | apply below_alloc | apply pw_below_drewN | apply below_drew1) | exact HB.out)⟩
            · rw [if_neg c18] at H
              exact absurd H (by simp)
          · rw [if_neg c17] at H
            exact absurd H (by simp)
        · rw [if_neg c16] at H
          exact absurd H (by simp)

/-! ### util_ReplaceEval: function 45 -/
def util_ReplaceEval.f (k : Nat) (a0 : ByteArray) (a1 : ByteArray) : Option (ByteArray) := if 1 + a1.size ≤ 9223372036854775807 then (if ((⟨#[40]⟩ : ByteArray) ++ a1).size + 1 ≤ 9223372036854775807 then ((util_zzReplaceEvals.f k a0 (((⟨#[40]⟩ : ByteArray) ++ a1) ++ (⟨#[41]⟩ : ByteArray))).bind fun t132 => (some t132)) else (none)) else (none)
theorem util_ReplaceEval.mono : ∀ a0 a1 k, LeO (util_ReplaceEval.f k a0 a1) (util_ReplaceEval.f (k + 1) a0 a1) := by
  intro a0 a1 k
  unfold util_ReplaceEval.f
  repeat' first
      | (with_reducible exact util_zzReplaceEvals.mono _ _ _)
      | (with_reducible exact LeO.refl _)
      | (with_reducible exact LeO.none _)
      | (with_reducible refine LeO.ite ?_ ?_)
      | (with_reducible refine LeO.bind ?_ (fun _ => ?_))
      | exact util_zzReplaceEvals.mono _ _ _
      | exact LeO.none _
      | refine LeO.ite ?_ ?_
      | refine LeO.bind ?_ (fun _ => ?_)
set_option maxHeartbeats 8000000 in
set_option maxRecDepth 100000 in
theorem util_ReplaceEval.calls (k : Nat) (a0 : ByteArray) (a1 : ByteArray) (r : ByteArray) (w : World) (h : util_ReplaceEval.f k a0 a1 = some r) :
    Calls Try.prog 45 #[.string a0, .string a1] w fun e w' => e = .returned (.string r) ∧ Below w.heap.size w w' := by
  have HB := Aside0.mk (Below.refl w.heap.size w)
  have H : (if 1 + a1.size ≤ 9223372036854775807 then (if ((⟨#[40]⟩ : ByteArray) ++ a1).size + 1 ≤ 9223372036854775807 then ((util_zzReplaceEvals.f k a0 (((⟨#[40]⟩ : ByteArray) ++ a1) ++ (⟨#[41]⟩ : ByteArray))).bind fun t132 => (some t132)) else (none)) else (none)) = some r := h
  clear h
  by_cases c3 : 1 + a1.size ≤ 9223372036854775807
  · rw [if_pos c3] at H
    have c3b0 := eq_true c3
    have c3b1 : decide (1 + a1.size ≤ 9223372036854775807) = true := decide_eq_true c3
    try have c3b2 : (9223372036854775807 < 1 + a1.size) = False := eq_false (Nat.not_lt.2 c3)
    by_cases c4 : ((⟨#[40]⟩ : ByteArray) ++ a1).size + 1 ≤ 9223372036854775807
    · rw [if_pos c4] at H
      have c4n := c4
      simp only [ByteArray.size_append, Int.natCast_add, show (⟨#[40]⟩ : ByteArray).size = 1 from rfl] at c4n
      have c4m : (9223372036854775807 < 1 + a1.size + 1) = False := eq_false (by have q := c4; simp only [ByteArray.size_append, ByteArray.size_extract, show (⟨#[40]⟩ : ByteArray).size = 1 from rfl] at q; omega)
      have c4b0 := eq_true c4
      have c4b1 : decide (((⟨#[40]⟩ : ByteArray) ++ a1).size + 1 ≤ 9223372036854775807) = true := decide_eq_true c4
      try have c4b2 : (9223372036854775807 < ((⟨#[40]⟩ : ByteArray) ++ a1).size + 1) = False := eq_false (Nat.not_lt.2 c4)
      replace H := Option.bind_eq_some_iff.mp H
      obtain ⟨t132, A50, H⟩ := H
      replace H : (some t132) = some r := H
      have A5 := Aside0.mk A50
      clear A50
      obtain rfl := Option.some.inj H
      go_enter Try.func45, Try.ntmps45
      go_wp2_with (first | ((with_reducible refine gate_callee (f := 60) rfl ?_); refine goesL_ (some 9) rfl rfl Try.func60 (by kernel_rfl) rfl #[.string a0, .string (((⟨#[40]⟩ : ByteArray) ++ a1) ++ (⟨#[41]⟩ : ByteArray))] rfl (by (try simp only [List.map_toArray, List.map_cons, List.map_nil]); first | done | rfl | (simp only [List.length_drop, List.length_take]; rfl)) ?_; (with_reducible refine (util_zzReplaceEvals.calls k a0 (((⟨#[40]⟩ : ByteArray) ++ a1) ++ (⟨#[41]⟩ : ByteArray)) t132 _ A5.out).mono ?_); rintro e w6 ⟨rfl, hb⟩; refine ⟨_, rfl, ?_⟩; have n0_ := Aside0.mk (below_step (by repeat (first | (with_reducible first | exact HB.out | apply below_alloc | apply pw_below_drewN | apply below_drew1) | exact HB.out)) hb); clear HB; have HB := n0_; clear n0_; (try clear hb); (try clear hb2); (try clear hk); (try clear hi)))
      go_ret
      exact ⟨by first | rfl | (simp [errW_none, errW_some] <;> rfl) | (simp [*, errW_none, errW_some] <;> rfl), by repeat (first | (with_reducible first | exact HB.out | apply below_alloc | apply pw_below_drewN | apply below_drew1) | exact HB.out)⟩
    · rw [if_neg c4] at H
      have c4n := c4
      simp only [ByteArray.size_append, Int.natCast_add, show (⟨#[40]⟩ : ByteArray).size = 1 from rfl] at c4n
      exact absurd H (by simp)
  · rw [if_neg c3] at H
    exact absurd H (by simp)

/-! ### impl_ReplaceEval: function 24 -/
def impl_ReplaceEval.f (k : Nat) (a0 : ByteArray) (a1 : ByteArray) : Option (ByteArray) := (util_ReplaceEval.f k a0 a1).bind fun t133 => (some t133)
theorem impl_ReplaceEval.mono : ∀ a0 a1 k, LeO (impl_ReplaceEval.f k a0 a1) (impl_ReplaceEval.f (k + 1) a0 a1) := by
  intro a0 a1 k
  unfold impl_ReplaceEval.f
  repeat' first
      | (with_reducible exact util_ReplaceEval.mono _ _ _)
      | (with_reducible exact LeO.refl _)
      | (with_reducible exact LeO.none _)
      | (with_reducible refine LeO.ite ?_ ?_)
      | (with_reducible refine LeO.bind ?_ (fun _ => ?_))
      | exact util_ReplaceEval.mono _ _ _
      | exact LeO.none _
      | refine LeO.ite ?_ ?_
      | refine LeO.bind ?_ (fun _ => ?_)
set_option maxHeartbeats 8000000 in
set_option maxRecDepth 100000 in
theorem impl_ReplaceEval.calls (k : Nat) (a0 : ByteArray) (a1 : ByteArray) (r : ByteArray) (w : World) (h : impl_ReplaceEval.f k a0 a1 = some r) :
    Calls Try.prog 24 #[.string a0, .string a1] w fun e w' => e = .returned (.string r) ∧ Below w.heap.size w w' := by
  have HB := Aside0.mk (Below.refl w.heap.size w)
  have H : ((util_ReplaceEval.f k a0 a1).bind fun t133 => (some t133)) = some r := h
  clear h
  replace H := Option.bind_eq_some_iff.mp H
  obtain ⟨t133, A30, H⟩ := H
  replace H : (some t133) = some r := H
  have A3 := Aside0.mk A30
  clear A30
  obtain rfl := Option.some.inj H
  go_enter Try.func24, Try.ntmps24
  go_wp2_with (first | ((with_reducible refine gate_callee (f := 45) rfl ?_); refine goesL_ (some 7) rfl rfl Try.func45 (by kernel_rfl) rfl #[.string a0, .string a1] rfl (by (try simp only [List.map_toArray, List.map_cons, List.map_nil]); first | done | rfl | (simp only [List.length_drop, List.length_take]; rfl)) ?_; (with_reducible refine (util_ReplaceEval.calls k a0 a1 t133 _ A3.out).mono ?_); rintro e w4 ⟨rfl, hb⟩; refine ⟨_, rfl, ?_⟩; have n0_ := Aside0.mk (below_step (by repeat (first | (with_reducible first | exact HB.out | apply below_alloc | apply pw_below_drewN | apply below_drew1) | exact HB.out)) hb); clear HB; have HB := n0_; clear n0_; (try clear hb); (try clear hb2); (try clear hk); (try clear hi)))
  go_ret
  exact ⟨by first | rfl | (simp [errW_none, errW_some] <;> rfl) | (simp [*, errW_none, errW_some] <;> rfl), by repeat (first | (with_reducible first | exact HB.out | apply below_alloc | apply pw_below_drewN | apply below_drew1) | exact HB.out)⟩

/-! ### spec_WordByte: function 61 -/
def spec_WordByte.f (a0 : Int) : Option (Bool) := if a0 ≥ 97 then (if a0 ≤ 122 then (some true) else (if a0 ≥ 65 then (if a0 ≤ 90 then (some true) else (if a0 ≥ 48 then (if a0 ≤ 57 then (some true) else (some (a0 == 95))) else (some (a0 == 95)))) else (if a0 ≥ 48 then (if a0 ≤ 57 then (some true) else (some (a0 == 95))) else (some (a0 == 95))))) else (if a0 ≥ 65 then (if a0 ≤ 90 then (some true) else (if a0 ≥ 48 then (if a0 ≤ 57 then (some true) else (some (a0 == 95))) else (some (a0 == 95)))) else (if a0 ≥ 48 then (if a0 ≤ 57 then (some true) else (some (a0 == 95))) else (some (a0 == 95))))
set_option maxHeartbeats 8000000 in
set_option maxRecDepth 100000 in
theorem spec_WordByte.calls (a0 : Int) (r : Bool) (w : World) (h : spec_WordByte.f a0 = some r) :
    Calls Try.prog 61 #[.int .u8 a0] w fun e w' => e = .returned (.bool r) ∧ Drawn0 w w' := by
  have H : (if a0 ≥ 97 then (if a0 ≤ 122 then (some true) else (if a0 ≥ 65 then (if a0 ≤ 90 then (some true) else (if a0 ≥ 48 then (if a0 ≤ 57 then (some true) else (some (a0 == 95))) else (some (a0 == 95)))) else (if a0 ≥ 48 then (if a0 ≤ 57 then (some true) else (some (a0 == 95))) else (some (a0 == 95))))) else (if a0 ≥ 65 then (if a0 ≤ 90 then (some true) else (if a0 ≥ 48 then (if a0 ≤ 57 then (some true) else (some (a0 == 95))) else (some (a0 == 95)))) else (if a0 ≥ 48 then (if a0 ≤ 57 then (some true) else (some (a0 == 95))) else (some (a0 == 95))))) = some r := h
  clear h
  by_cases c2 : a0 ≥ 97
  · rw [if_pos c2] at H
    have c2b0 : decide (97 ≤ a0) = true := decide_eq_true c2
    clear c2
    by_cases c3 : a0 ≤ 122
    · rw [if_pos c3] at H
      have c3b0 : decide (a0 ≤ 122) = true := decide_eq_true c3
      clear c3
      obtain rfl := Option.some.inj H
      go_enter Try.func61, Try.ntmps61
      go_wp2
      go_ret
      exact ⟨by first | rfl | (simp; done) | (simp [*]; done), by repeat (first | exact Drawn0.refl _ | apply Drawn0.step)⟩
    · rw [if_neg c3] at H
      have c3b0 : decide (a0 ≤ 122) = false := decide_eq_false c3
      clear c3
      by_cases c4 : a0 ≥ 65
      · rw [if_pos c4] at H
        have c4b0 : decide (65 ≤ a0) = true := decide_eq_true c4
        clear c4
        by_cases c5 : a0 ≤ 90
        · rw [if_pos c5] at H
          have c5b0 : decide (a0 ≤ 90) = true := decide_eq_true c5
          clear c5
          obtain rfl := Option.some.inj H
          go_enter Try.func61, Try.ntmps61
          go_wp2
          go_ret
          exact ⟨by first | rfl | (simp; done) | (simp [*]; done), by repeat (first | exact Drawn0.refl _ | apply Drawn0.step)⟩
        · rw [if_neg c5] at H
          have c5b0 : decide (a0 ≤ 90) = false := decide_eq_false c5
          clear c5
          by_cases c6 : a0 ≥ 48
          · rw [if_pos c6] at H
            have c6b0 : decide (48 ≤ a0) = true := decide_eq_true c6
            clear c6
            by_cases c7 : a0 ≤ 57
            · rw [if_pos c7] at H
              have c7b0 : decide (a0 ≤ 57) = true := decide_eq_true c7
              clear c7
              obtain rfl := Option.some.inj H
              go_enter Try.func61, Try.ntmps61
              go_wp2
              go_ret
              exact ⟨by first | rfl | (simp; done) | (simp [*]; done), by repeat (first | exact Drawn0.refl _ | apply Drawn0.step)⟩
            · rw [if_neg c7] at H
              have c7b0 : decide (a0 ≤ 57) = false := decide_eq_false c7
              clear c7
              obtain rfl := Option.some.inj H
              go_enter Try.func61, Try.ntmps61
              go_wp2
              go_ret
              exact ⟨by first | rfl | (simp; done) | (simp [*]; done), by repeat (first | exact Drawn0.refl _ | apply Drawn0.step)⟩
          · rw [if_neg c6] at H
            have c6b0 : decide (48 ≤ a0) = false := decide_eq_false c6
            clear c6
            obtain rfl := Option.some.inj H
            go_enter Try.func61, Try.ntmps61
            go_wp2
            go_ret
            exact ⟨by first | rfl | (simp; done) | (simp [*]; done), by repeat (first | exact Drawn0.refl _ | apply Drawn0.step)⟩
      · rw [if_neg c4] at H
        have c4b0 : decide (65 ≤ a0) = false := decide_eq_false c4
        clear c4
        by_cases c8 : a0 ≥ 48
        · rw [if_pos c8] at H
          have c8b0 : decide (48 ≤ a0) = true := decide_eq_true c8
          clear c8
          by_cases c9 : a0 ≤ 57
          · rw [if_pos c9] at H
            have c9b0 : decide (a0 ≤ 57) = true := decide_eq_true c9
            clear c9
            obtain rfl := Option.some.inj H
            go_enter Try.func61, Try.ntmps61
            go_wp2
            go_ret
            exact ⟨by first | rfl | (simp; done) | (simp [*]; done), by repeat (first | exact Drawn0.refl _ | apply Drawn0.step)⟩
          · rw [if_neg c9] at H
            have c9b0 : decide (a0 ≤ 57) = false := decide_eq_false c9
            clear c9
            obtain rfl := Option.some.inj H
            go_enter Try.func61, Try.ntmps61
            go_wp2
            go_ret
            exact ⟨by first | rfl | (simp; done) | (simp [*]; done), by repeat (first | exact Drawn0.refl _ | apply Drawn0.step)⟩
        · rw [if_neg c8] at H
          have c8b0 : decide (48 ≤ a0) = false := decide_eq_false c8
          clear c8
          obtain rfl := Option.some.inj H
          go_enter Try.func61, Try.ntmps61
          go_wp2
          go_ret
          exact ⟨by first | rfl | (simp; done) | (simp [*]; done), by repeat (first | exact Drawn0.refl _ | apply Drawn0.step)⟩
  · rw [if_neg c2] at H
    have c2b0 : decide (97 ≤ a0) = false := decide_eq_false c2
    clear c2
    by_cases c10 : a0 ≥ 65
    · rw [if_pos c10] at H
      have c10b0 : decide (65 ≤ a0) = true := decide_eq_true c10
      clear c10
      by_cases c11 : a0 ≤ 90
      · rw [if_pos c11] at H
        have c11b0 : decide (a0 ≤ 90) = true := decide_eq_true c11
        clear c11
        obtain rfl := Option.some.inj H
        go_enter Try.func61, Try.ntmps61
        go_wp2
        go_ret
        exact ⟨by first | rfl | (simp; done) | (simp [*]; done), by repeat (first | exact Drawn0.refl _ | apply Drawn0.step)⟩
      · rw [if_neg c11] at H
        have c11b0 : decide (a0 ≤ 90) = false := decide_eq_false c11
        clear c11
        by_cases c12 : a0 ≥ 48
        · rw [if_pos c12] at H
          have c12b0 : decide (48 ≤ a0) = true := decide_eq_true c12
          clear c12
          by_cases c13 : a0 ≤ 57
          · rw [if_pos c13] at H
            have c13b0 : decide (a0 ≤ 57) = true := decide_eq_true c13
            clear c13
            obtain rfl := Option.some.inj H
            go_enter Try.func61, Try.ntmps61
            go_wp2
            go_ret
            exact ⟨by first | rfl | (simp; done) | (simp [*]; done), by repeat (first | exact Drawn0.refl _ | apply Drawn0.step)⟩
          · rw [if_neg c13] at H
            have c13b0 : decide (a0 ≤ 57) = false := decide_eq_false c13
            clear c13
            obtain rfl := Option.some.inj H
            go_enter Try.func61, Try.ntmps61
            go_wp2
            go_ret
            exact ⟨by first | rfl | (simp; done) | (simp [*]; done), by repeat (first | exact Drawn0.refl _ | apply Drawn0.step)⟩
        · rw [if_neg c12] at H
          have c12b0 : decide (48 ≤ a0) = false := decide_eq_false c12
          clear c12
          obtain rfl := Option.some.inj H
          go_enter Try.func61, Try.ntmps61
          go_wp2
          go_ret
          exact ⟨by first | rfl | (simp; done) | (simp [*]; done), by repeat (first | exact Drawn0.refl _ | apply Drawn0.step)⟩
    · rw [if_neg c10] at H
      have c10b0 : decide (65 ≤ a0) = false := decide_eq_false c10
      clear c10
      by_cases c14 : a0 ≥ 48
      · rw [if_pos c14] at H
        have c14b0 : decide (48 ≤ a0) = true := decide_eq_true c14
        clear c14
        by_cases c15 : a0 ≤ 57
        · rw [if_pos c15] at H
          have c15b0 : decide (a0 ≤ 57) = true := decide_eq_true c15
          clear c15
          obtain rfl := Option.some.inj H
          go_enter Try.func61, Try.ntmps61
          go_wp2
          go_ret
          exact ⟨by first | rfl | (simp; done) | (simp [*]; done), by repeat (first | exact Drawn0.refl _ | apply Drawn0.step)⟩
        · rw [if_neg c15] at H
          have c15b0 : decide (a0 ≤ 57) = false := decide_eq_false c15
          clear c15
          obtain rfl := Option.some.inj H
          go_enter Try.func61, Try.ntmps61
          go_wp2
          go_ret
          exact ⟨by first | rfl | (simp; done) | (simp [*]; done), by repeat (first | exact Drawn0.refl _ | apply Drawn0.step)⟩
      · rw [if_neg c14] at H
        have c14b0 : decide (48 ≤ a0) = false := decide_eq_false c14
        clear c14
        obtain rfl := Option.some.inj H
        go_enter Try.func61, Try.ntmps61
        go_wp2
        go_ret
        exact ⟨by first | rfl | (simp; done) | (simp [*]; done), by repeat (first | exact Drawn0.refl _ | apply Drawn0.step)⟩

/-! ### spec_evalAt: function 46 -/
mutual
def spec_evalAt.l0 : Nat → ByteArray → Int → Option (Int × Int × Int × Bool)
  | 0, _, _ => none
  | k + 1, x0, x8 => if (wrap64 (x8 + 5)) ≤ (x0.size : Int) then (if 0 ≤ x8 then (if x8 ≤ (wrap64 (x8 + 5)) then (if (x0.extract (x8 : Int).toNat ((wrap64 (x8 + 5)) : Int).toNat).toList = ([101, 118, 97, 108, 40] : List UInt8) then (if x8 > 0 then (if 0 ≤ (wrap64 (x8 - 1)) then (if (wrap64 (x8 - 1)) < (x0.size : Int) then ((spec_WordByte.f (bt x0 (wrap64 (x8 - 1)))).bind fun t134 => (spec_evalAt.j1 k x0 x8 t134)) else (none)) else (none)) else (spec_evalAt.j1 k x0 x8 false)) else (spec_evalAt.j1 k x0 x8 true)) else (none)) else (none)) else (some (0, 0, 0, false))
def spec_evalAt.j1 : Nat → ByteArray → Int → Bool → Option (Int × Int × Int × Bool)
  | 0, _, _, _ => none
  | k + 1, x0, x8, x34 => if x34 = true then (spec_evalAt.l0 k x0 (wrap64 (x8 + 1))) else (spec_evalAt.l1 k x0 x8 (wrap64 (x8 + 5)))
def spec_evalAt.l1 : Nat → ByteArray → Int → Int → Option (Int × Int × Int × Bool)
  | 0, _, _, _ => none
  | k + 1, x0, x8, x9 => if x9 < (x0.size : Int) then (if 0 ≤ x9 then (if (bt x0 x9) = 41 then (some (x8, wrap64 (x8 + 5), x9, true)) else (spec_evalAt.l1 k x0 x8 (wrap64 (x9 + 1)))) else (none)) else (spec_evalAt.l0 k x0 (wrap64 (x8 + 1)))
end
def spec_evalAt.f (k : Nat) (a0 : ByteArray) (a1 : Int) : Option (Int × Int × Int × Bool) := spec_evalAt.l0 k a0 a1
theorem spec_evalAt.mono_l : ∀ k, (∀ y0 y1, LeO (spec_evalAt.l0 k y0 y1) (spec_evalAt.l0 (k + 1) y0 y1)) ∧ (∀ y0 y1 y2, LeO (spec_evalAt.j1 k y0 y1 y2) (spec_evalAt.j1 (k + 1) y0 y1 y2)) ∧ (∀ y0 y1 y2, LeO (spec_evalAt.l1 k y0 y1 y2) (spec_evalAt.l1 (k + 1) y0 y1 y2))
  | 0 => ⟨fun _ _ r h => by simp [spec_evalAt.l0] at h, fun _ _ _ r h => by simp [spec_evalAt.j1] at h, fun _ _ _ r h => by simp [spec_evalAt.l1] at h⟩
  | k + 1 => by
    obtain ⟨ih0, ih1, ih2⟩ := spec_evalAt.mono_l k
    refine ⟨?_, ?_, ?_⟩
    · intro y0 y1
      unfold spec_evalAt.l0
      repeat' first
      | (with_reducible exact ih0 _ _)
      | (with_reducible exact ih1 _ _ _)
      | (with_reducible exact ih2 _ _ _)
      | (with_reducible exact LeO.refl _)
      | (with_reducible exact LeO.none _)
      | (with_reducible refine LeO.ite ?_ ?_)
      | (with_reducible refine LeO.bind ?_ (fun _ => ?_))
      | exact ih0 _ _
      | exact ih1 _ _ _
      | exact ih2 _ _ _
      | exact LeO.none _
      | refine LeO.ite ?_ ?_
      | refine LeO.bind ?_ (fun _ => ?_)
    · intro y0 y1 y2
      unfold spec_evalAt.j1
      repeat' first
      | (with_reducible exact ih0 _ _)
      | (with_reducible exact ih1 _ _ _)
      | (with_reducible exact ih2 _ _ _)
      | (with_reducible exact LeO.refl _)
      | (with_reducible exact LeO.none _)
      | (with_reducible refine LeO.ite ?_ ?_)
      | (with_reducible refine LeO.bind ?_ (fun _ => ?_))
      | exact ih0 _ _
      | exact ih1 _ _ _
      | exact ih2 _ _ _
      | exact LeO.none _
      | refine LeO.ite ?_ ?_
      | refine LeO.bind ?_ (fun _ => ?_)
    · intro y0 y1 y2
      unfold spec_evalAt.l1
      repeat' first
      | (with_reducible exact ih0 _ _)
      | (with_reducible exact ih1 _ _ _)
      | (with_reducible exact ih2 _ _ _)
      | (with_reducible exact LeO.refl _)
      | (with_reducible exact LeO.none _)
      | (with_reducible refine LeO.ite ?_ ?_)
      | (with_reducible refine LeO.bind ?_ (fun _ => ?_))
      | exact ih0 _ _
      | exact ih1 _ _ _
      | exact ih2 _ _ _
      | exact LeO.none _
      | refine LeO.ite ?_ ?_
      | refine LeO.bind ?_ (fun _ => ?_)
theorem spec_evalAt.mono : ∀ a0 a1 k, LeO (spec_evalAt.f k a0 a1) (spec_evalAt.f (k + 1) a0 a1) := by
  intro a0 a1 k
  obtain ⟨ih0, ih1, ih2⟩ := spec_evalAt.mono_l k
  unfold spec_evalAt.f
  repeat' first
      | (with_reducible exact ih0 _ _)
      | (with_reducible exact ih1 _ _ _)
      | (with_reducible exact ih2 _ _ _)
      | (with_reducible exact LeO.refl _)
      | (with_reducible exact LeO.none _)
      | (with_reducible refine LeO.ite ?_ ?_)
      | (with_reducible refine LeO.bind ?_ (fun _ => ?_))
      | exact ih0 _ _
      | exact ih1 _ _ _
      | exact ih2 _ _ _
      | exact LeO.none _
      | refine LeO.ite ?_ ?_
      | refine LeO.bind ?_ (fun _ => ?_)
set_option maxHeartbeats 8000000 in
set_option maxRecDepth 100000 in
theorem spec_evalAt.calls (k : Nat) (a0 : ByteArray) (a1 : Int) (r1 : Int) (r2 : Int) (r3 : Int) (r4 : Bool) (w : World) (h : spec_evalAt.f k a0 a1 = some (r1, r2, r3, r4)) :
    Calls Try.prog 46 #[.string a0, .int .i64 a1] w fun e w' => e = .returned (.tuple #[.int .i64 r1, .int .i64 r2, .int .i64 r3, .bool r4]) ∧ Drawn0 w w' := by
  have H : (spec_evalAt.l0 k a0 a1) = some (r1, r2, r3, r4) := h
  clear h
  have H' := Aside0.mk H
  clear H
  go_enter Try.func46, Try.ntmps46
  go_wp2
  go_loopg [8] k (fun kq v8 w' => ∃ (x8_1 : Int), v8 = .int .i64 x8_1 ∧ Aside0 (spec_evalAt.l0 kq a0 x8_1 = some (r1, r2, r3, r4)) ∧ Aside0 (kq ≤ k) ∧ Drawn0 w w')
  case atStart => exact ⟨(a1), (by first | rfl | (simp; done) | (simp [*]; done)), H', ⟨Nat.le_refl _⟩, by repeat (first | exact Drawn0.refl _ | apply Drawn0.step)⟩
  case round =>
    clear H'
    try clear p2
    obtain ⟨x8_1, rfl, HA, HK1, ⟨m1, rfl⟩⟩ := hrel
    cases gk with
    | zero => exact absurd HA.out (by simp [spec_evalAt.l0])
    | succ k1 =>
      have H := HA.out
      clear HA
      simp only [spec_evalAt.l0] at H
      by_cases c3 : (wrap64 (x8_1 + 5)) ≤ (a0.size : Int)
      · rw [if_pos c3] at H
        have c3b0 : decide ((wrap64 (x8_1 + 5)) ≤ (a0.size : Int)) = true := decide_eq_true c3
        clear c3
        have HC4 := Aside0.mk H
        clear H
        go_upto_region 4 with (fail)
        go_cut [34] (fun v34 wc => ∃ (kq : Nat) (x34_3 : Bool), v34 = .bool x34_3 ∧ Aside0 (spec_evalAt.j1 kq a0 x8_1 x34_3 = some (r1, r2, r3, r4)) ∧ Aside0 (kq ≤ k1) ∧ Drawn0 w wc)
        case first =>
          have H := HC4.out
          clear HC4
          by_cases c5 : 0 ≤ x8_1
          · rw [if_pos c5] at H
            have c5b0 := eq_true c5
            have c5b1 : decide (0 ≤ x8_1) = true := decide_eq_true c5
            clear c5
            by_cases c6 : x8_1 ≤ (wrap64 (x8_1 + 5))
            · rw [if_pos c6] at H
              have c6b0 := eq_true c6
              have c6b1 : decide (x8_1 ≤ (wrap64 (x8_1 + 5))) = true := decide_eq_true c6
              have c7b0 := eq_true (of_decide_eq_true (by first | (with_reducible assumption) | assumption) : (wrap64 (x8_1 + 5)) ≤ (a0.size : Int))
              by_cases c8 : (a0.extract (x8_1 : Int).toNat ((wrap64 (x8_1 + 5)) : Int).toNat).toList = ([101, 118, 97, 108, 40] : List UInt8)
              · rw [if_pos c8] at H
                have c8b0 : ((a0.extract (x8_1 : Int).toNat ((wrap64 (x8_1 + 5)) : Int).toNat).toList == ([101, 118, 97, 108, 40] : List UInt8)) = true := beq_iff_eq.mpr c8
                have c8b1 : ((a0.extract (x8_1 : Int).toNat ((wrap64 (x8_1 + 5)) : Int).toNat).toList != ([101, 118, 97, 108, 40] : List UInt8)) = false := bne_eq_false_iff_eq.mpr c8
                clear c8
                (first | rw [c8b0] | (simp only [i64_w, i32_w]; rw [c8b0]) | skip)
                by_cases c9 : x8_1 > 0
                · rw [if_pos c9] at H
                  have c9b0 : decide (0 < x8_1) = true := decide_eq_true c9
                  clear c9
                  obtain ⟨ji10, hji10⟩ : ∃ j_ : Int, (wrap64 (x8_1 - 1)) = j_ := ⟨_, rfl⟩
                  replace H : (if 0 ≤ (ji10) then (if (ji10) < (a0.size : Int) then ((spec_WordByte.f (bt a0 (ji10))).bind fun t134 => (spec_evalAt.j1 k1 a0 x8_1 t134)) else (none)) else (none)) = some (r1, r2, r3, r4) := by first | (rw [hji10] at H; exact H) | (simp only [hji10] at H ⊢; exact H)
                  have hji10w : (IntKind.i64.wrap (x8_1 - 1)) = ji10 := (i64_w _).trans hji10
                  by_cases c11 : 0 ≤ (ji10)
                  · rw [if_pos c11] at H
                    have c11b0 : decide (0 ≤ (ji10)) = true := decide_eq_true c11
                    clear c11
                    by_cases c12 : (ji10) < (a0.size : Int)
                    · rw [if_pos c12] at H
                      have c12b0 : decide ((ji10) < (a0.size : Int)) = true := decide_eq_true c12
                      clear c12
                      replace H := Option.bind_eq_some_iff.mp H
                      obtain ⟨t134, A140, H⟩ := H
                      replace H : (spec_evalAt.j1 k1 a0 x8_1 t134) = some (r1, r2, r3, r4) := H
                      have A14 := Aside0.mk A140
                      clear A140
                      have H' := Aside0.mk H
                      clear H
                      have p13 : 0 ≤ ((ji10) : Int) := of_decide_eq_true (by first | (with_reducible assumption) | assumption)
                      have q13 : (ji10) < (a0.size : Int) := of_decide_eq_true (by first | (with_reducible assumption) | assumption)
                      have hx13 := bt_at a0 (ji10)
                      replace p13 := eq_true p13
                      replace q13 := eq_true q13
                      go_wp2_with (first | (go_at_call 61; (with_reducible refine (spec_WordByte.calls (bt a0 (ji10)) t134 _ A14.out).mono ?_); rintro e w' ⟨rfl, ⟨nd, rfl⟩⟩))
                      go_meet
                      case rel => exact ⟨_, (t134), (by first | rfl | (simp; done) | (simp [*]; done)), H', ⟨by have := HK1.out; first | omega | exact Nat.le_refl _⟩, by repeat (first | exact Drawn0.refl _ | apply Drawn0.step)⟩
                    · rw [if_neg c12] at H
                      exact absurd H (by simp)
                  · rw [if_neg c11] at H
                    exact absurd H (by simp)
                · rw [if_neg c9] at H
                  have c9b0 : decide (0 < x8_1) = false := decide_eq_false c9
                  clear c9
                  have H' := Aside0.mk H
                  clear H
                  go_wp2
                  go_meet
                  case rel => exact ⟨_, (false), (by first | rfl | (simp; done) | (simp [*]; done)), H', ⟨by have := HK1.out; first | omega | exact Nat.le_refl _⟩, by repeat (first | exact Drawn0.refl _ | apply Drawn0.step)⟩
              · rw [if_neg c8] at H
                have c8b0 : ((a0.extract (x8_1 : Int).toNat ((wrap64 (x8_1 + 5)) : Int).toNat).toList == ([101, 118, 97, 108, 40] : List UInt8)) = false := beq_eq_false_iff_ne.mpr c8
                have c8b1 : ((a0.extract (x8_1 : Int).toNat ((wrap64 (x8_1 + 5)) : Int).toNat).toList != ([101, 118, 97, 108, 40] : List UInt8)) = true := bne_iff_ne.mpr c8
                (first | rw [c8b0] | (simp only [i64_w, i32_w]; rw [c8b0]) | skip)
                have H' := Aside0.mk H
                clear H
                go_wp2
                go_meet
                case rel => exact ⟨_, (true), (by first | rfl | (simp; done) | (simp [*]; done)), H', ⟨by have := HK1.out; first | omega | exact Nat.le_refl _⟩, by repeat (first | exact Drawn0.refl _ | apply Drawn0.step)⟩
            · rw [if_neg c6] at H
              exact absurd H (by simp)
          · rw [if_neg c5] at H
            exact absurd H (by simp)
        case rest =>
          clear HC4
          try clear c1
          try clear p1
          try clear q1
          try clear hx1
          try clear p2
          try clear c3
          try clear c3b0
          try clear c4
          try clear c5
          try clear c5b0
          try clear c5b1
          try clear c6
          try clear c6b0
          try clear c6b1
          try clear p6
          try clear c7
          try clear c7b0
          try clear c8
          try clear c8b0
          try clear c8b1
          try clear c9
          try clear c9b0
          try clear c11
          try clear c11b0
          try clear c12
          try clear c12b0
          try clear p13
          try clear q13
          try clear hx13
          try clear p13
          try clear p2
          try clear q13
          obtain ⟨kq, x34_3, rfl, HA, HJ3, ⟨mc3, rfl⟩⟩ := hcut
          cases kq with
          | zero => exact absurd HA.out (by simp [spec_evalAt.j1])
          | succ kj3 =>
            have H := HA.out
            clear HA
            simp only [spec_evalAt.j1] at H
            by_cases c15 : x34_3 = true
            · subst c15
              have H1 : (spec_evalAt.l0 kj3 a0 (wrap64 (x8_1 + 1))) = some (r1, r2, r3, r4) := by rw [if_pos rfl] at H; exact H
              clear H
              have H := H1
              clear H1
              have H' := Aside0.mk H
              clear H
              go_wp2
              go_roundg kj3
              case measure => have := HK1.out; have := HJ3.out; omega
              case rel => exact ⟨(wrap64 (x8_1 + 1)), (by first | rfl | (simp; done) | (simp [*]; done)), H', ⟨by have := HK1.out; have := HJ3.out; omega⟩, by repeat (first | exact Drawn0.refl _ | apply Drawn0.step)⟩
            · replace c15 := Bool.eq_false_iff.mpr c15
              subst c15
              have H1 : (spec_evalAt.l1 kj3 a0 x8_1 (wrap64 (x8_1 + 5))) = some (r1, r2, r3, r4) := by rw [if_neg (show ¬ (false = true) by decide)] at H; exact H
              clear H
              have H := H1
              clear H1
              have H' := Aside0.mk H
              clear H
              go_wp2
              go_loopg [9] kj3 (fun kq v9 w' => ∃ (x9_3 : Int), v9 = .int .i64 x9_3 ∧ Aside0 (spec_evalAt.l1 kq a0 x8_1 x9_3 = some (r1, r2, r3, r4)) ∧ Aside0 (kq ≤ kj3) ∧ Drawn0 w w')
              case atStart => exact ⟨(wrap64 (x8_1 + 5)), (by first | rfl | (simp; done) | (simp [*]; done)), H', ⟨Nat.le_refl _⟩, by repeat (first | exact Drawn0.refl _ | apply Drawn0.step)⟩
              case round =>
                clear H'
                try clear c1
                try clear p1
                try clear q1
                try clear hx1
                try clear p2
                try clear c3
                try clear c3b0
                try clear c4
                try clear c5
                try clear c5b0
                try clear c5b1
                try clear c6
                try clear c6b0
                try clear c6b1
                try clear p6
                try clear c7
                try clear c7b0
                try clear c8
                try clear c8b0
                try clear c8b1
                try clear c9
                try clear c9b0
                try clear c11
                try clear c11b0
                try clear c12
                try clear c12b0
                try clear p13
                try clear q13
                try clear hx13
                try clear c15
                try clear p1
                try clear p13
                try clear p2
                try clear p6
                try clear q1
                try clear q13
                obtain ⟨x9_3, rfl, HA, HK3, ⟨m3, rfl⟩⟩ := hrel
                cases gk with
                | zero => exact absurd HA.out (by simp [spec_evalAt.l1])
                | succ k3 =>
                  have H := HA.out
                  clear HA
                  simp only [spec_evalAt.l1] at H
                  by_cases c16 : x9_3 < (a0.size : Int)
                  · rw [if_pos c16] at H
                    have c16b0 : decide (x9_3 < (a0.size : Int)) = true := decide_eq_true c16
                    clear c16
                    by_cases c17 : 0 ≤ x9_3
                    · rw [if_pos c17] at H
                      have c17b0 : decide (0 ≤ x9_3) = true := decide_eq_true c17
                      clear c17
                      by_cases c19 : (bt a0 x9_3) = 41
                      · rw [if_pos c19] at H
                        have c19b0 : ((bt a0 x9_3) == 41) = true := beq_iff_eq.mpr c19
                        have c19b1 : ((bt a0 x9_3) != 41) = false := bne_eq_false_iff_eq.mpr c19
                        clear c19
                        simp only [Option.some.injEq, Prod.mk.injEq] at H
                        obtain ⟨rfl, rfl, rfl, rfl⟩ := H
                        have p18 : 0 ≤ (x9_3 : Int) := of_decide_eq_true (by first | (with_reducible assumption) | assumption)
                        have q18 : x9_3 < (a0.size : Int) := of_decide_eq_true (by first | (with_reducible assumption) | assumption)
                        have hx18 := bt_at a0 x9_3
                        replace p18 := eq_true p18
                        replace q18 := eq_true q18
                        go_wp2
                        refine bodyPost_ret (results_list (rs := [.tmp 4, .tmp 5, .tmp 6, .tmp 7]) rfl (by simp) (.tmp (.tmp (.tmp (.tmp .nil))))) rfl ?_
                        exact ⟨by first | rfl | (simp; done) | (simp [*]; done), by repeat (first | exact Drawn0.refl _ | apply Drawn0.step)⟩
                      · rw [if_neg c19] at H
                        have c19b0 : ((bt a0 x9_3) == 41) = false := beq_eq_false_iff_ne.mpr c19
                        have c19b1 : ((bt a0 x9_3) != 41) = true := bne_iff_ne.mpr c19
                        have H' := Aside0.mk H
                        clear H
                        have p18 : 0 ≤ (x9_3 : Int) := of_decide_eq_true (by first | (with_reducible assumption) | assumption)
                        have q18 : x9_3 < (a0.size : Int) := of_decide_eq_true (by first | (with_reducible assumption) | assumption)
                        have hx18 := bt_at a0 x9_3
                        replace p18 := eq_true p18
                        replace q18 := eq_true q18
                        go_wp2
                        go_roundg k3
                        case measure => have := HK1.out; have := HJ3.out; have := HK3.out; omega
                        case rel => exact ⟨(wrap64 (x9_3 + 1)), (by first | rfl | (simp; done) | (simp [*]; done)), H', ⟨by have := HK1.out; have := HJ3.out; have := HK3.out; omega⟩, by repeat (first | exact Drawn0.refl _ | apply Drawn0.step)⟩
                    · rw [if_neg c17] at H
                      exact absurd H (by simp)
                  · rw [if_neg c16] at H
                    have c16b0 : decide (x9_3 < (a0.size : Int)) = false := decide_eq_false c16
                    clear c16
                    have H' := Aside0.mk H
                    clear H
                    go_wp2
                    go_roundg k3
                    case measure => have := HK1.out; have := HJ3.out; have := HK3.out; omega
                    case rel => exact ⟨(wrap64 (x8_1 + 1)), (by first | rfl | (simp; done) | (simp [*]; done)), H', ⟨by have := HK1.out; have := HJ3.out; have := HK3.out; omega⟩, by repeat (first | exact Drawn0.refl _ | apply Drawn0.step)⟩
      · rw [if_neg c3] at H
        have c3b0 : decide ((wrap64 (x8_1 + 5)) ≤ (a0.size : Int)) = false := decide_eq_false c3
        clear c3
        simp only [Option.some.injEq, Prod.mk.injEq] at H
        obtain ⟨rfl, rfl, rfl, rfl⟩ := H
        go_wp2
        refine bodyPost_ret (results_list (rs := [.tmp 4, .tmp 5, .tmp 6, .tmp 7]) rfl (by simp) (.tmp (.tmp (.tmp (.tmp .nil))))) rfl ?_
        exact ⟨by first | rfl | (simp; done) | (simp [*]; done), by repeat (first | exact Drawn0.refl _ | apply Drawn0.step)⟩

end Go.Proofs.Ytnbcohabllkneaa.PFnEvaled
