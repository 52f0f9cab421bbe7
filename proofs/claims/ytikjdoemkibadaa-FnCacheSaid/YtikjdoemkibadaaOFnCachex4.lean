/- The machine side of laws.FnCache: each function of this text answers what its Lean function answers (written for this claim by a program of this session over the kit's print; no condition beyond what each theorem says). -/
import Derived.Test.YtikjdoemkibadaaOFnCachex0
import Derived.Test.YtikjdoemkibadaaOFnCachex1
import Derived.Test.YtikjdoemkibadaaOFnCachex3
namespace Go.Proofs.Ytikjdoemkibadaa.PFnCache
open Go.RowKit Go.Proofs.YtikjdoemkibadaaW.PrintWords Go.Proofs.YtikjdoemkibadaaW.PrintLast Go.Proofs.YtikjdoemkibadaaW.PrintMore
attribute [local go_sem] max2_int min2_int max_two min_two max_three min_three max_four min_four   -- for this text's walks alone
set_option linter.unusedVariables false
set_option linter.unusedSimpArgs false

attribute [local go_sem high] eqA32
/-! ### laws_awakeCache: function 6 -/
def laws_awakeCache.f  : Option (Bool) := (impl_Cache.f 2 (([(⟨0, 1, 7⟩ : S30), (⟨1, 1, 0⟩ : S30)] : List (S30)))).bind fun t112 => (if (t112.length : Int) = 2 then (if 1 < (t112.length : Int) then (if (rd_T32 t112 1).f0 = true then (some (((rd_T32 t112 1).f1) == 7)) else (some false)) else (none)) else (some false))
set_option maxHeartbeats 8000000 in
set_option maxRecDepth 100000 in
theorem laws_awakeCache.calls  (r : Bool) (w : World) (h : laws_awakeCache.f  = some r) :
    Calls Try.prog 6 #[] w fun e w' => e = .returned (.bool r) ∧ Below w.heap.size w w' := by
  have hu30 := Try.underlying30
  have HB := Aside0.mk (Below.refl w.heap.size w)
  have H : ((impl_Cache.f 2 (([(⟨0, 1, 7⟩ : S30), (⟨1, 1, 0⟩ : S30)] : List (S30)))).bind fun t112 => (if (t112.length : Int) = 2 then (if 1 < (t112.length : Int) then (if (rd_T32 t112 1).f0 = true then (some (((rd_T32 t112 1).f1) == 7)) else (some false)) else (none)) else (some false))) = some r := h
  clear h
  obtain ⟨y109, hy109⟩ : ∃ y_ : List (S30), y_ = (([(⟨0, 1, 7⟩ : S30), (⟨1, 1, 0⟩ : S30)] : List (S30))) := ⟨_, rfl⟩
  replace H : ((impl_Cache.f 2 y109).bind fun t112 => (if (t112.length : Int) = 2 then (if 1 < (t112.length : Int) then (if (rd_T32 t112 1).f0 = true then (some (((rd_T32 t112 1).f1) == 7)) else (some false)) else (none)) else (some false))) = some r := by first | (rw [hy109]; with_reducible exact H) | (have H2_ := (Option.bind_some _ _).symm.trans H; rw [hy109]; with_reducible exact H2_) | (have H2_ := (Option.bind_some _ _).symm.trans H; with_reducible exact H2_) | with_reducible exact H | (rw [hy109]; exact H) | exact H
  have Ny109 := Aside0.mk hy109
  clear hy109
  replace H := Option.bind_eq_some_iff.mp H
  obtain ⟨t112, A10, H⟩ := H
  replace H : (if (t112.length : Int) = 2 then (if 1 < (t112.length : Int) then (if (rd_T32 t112 1).f0 = true then (some (((rd_T32 t112 1).f1) == 7)) else (some false)) else (none)) else (some false)) = some r := H
  have A1 := Aside0.mk A10
  clear A10
  by_cases c2 : (t112.length : Int) = 2
  · rw [if_pos c2] at H
    have c2b0 : ((t112.length : Int) == 2) = true := beq_iff_eq.mpr c2
    have c2b1 : ((t112.length : Int) != 2) = false := bne_eq_false_iff_eq.mpr c2
    clear c2
    by_cases c3 : 1 < (t112.length : Int)
    · rw [if_pos c3] at H
      have c3b0 : decide (1 < (t112.length : Int)) = true := decide_eq_true c3
      have c3b1 : decide (1 < t112.length) = true := decide_eq_true (by omega)
      clear c3
      obtain ⟨bq4, hbq4⟩ : ∃ b_ : Bool, b_ = ((rd_T32 t112 1).f0) := ⟨_, rfl⟩
      replace H : (if bq4 = true then (some (((rd_T32 t112 1).f1) == 7)) else (some false)) = some r := by rw [← hbq4] at H; exact H
      have Nbq4 := Aside0.mk hbq4
      clear hbq4
      by_cases c5 : bq4 = true
      · subst c5
        have H1 : (some (((rd_T32 t112 1).f1) == 7)) = some r := by rw [if_pos rfl] at H; exact H
        clear H
        have H := H1
        clear H1
        obtain rfl := Option.some.inj H
        go_enter Try.func6, Try.ntmps6
        go_wp2_with (first | ((with_reducible refine gate_dst (N := 4) rfl ?_); refine Kd.R_lit k30 _ 30 ?hg (N := 4) ?hd (xs := ([(⟨0, 1, 7⟩ : S30), (⟨1, 1, 0⟩ : S30)] : List (S30))) (inner := [.int .i64 0, .int .i64 1, .int .i64 7, .int .i64 1, .int .i64 1, .int .i64 0]) (ok := fun _ => True) (okp := fun _ => True) ?hr ?hp (fun _ hk => hk) trivial (Below.refl _ _) (Nat.le_refl _) (by simp) ?_; (case hd => rfl); (case hg => rfl); (case hr => first | (go_simp; done) | (go_simp; rfl)); (case hp => exact (Reps.c3 (show Kd.M k30 _ _ _ (⟨0, 1, 7⟩ : S30) [.int .i64 0, .int .i64 1, .int .i64 7] from (k30_mkM _ _ _ (⟨0, 1, 7⟩ : S30) )) (Reps.c3 (show Kd.M k30 _ _ _ (⟨1, 1, 0⟩ : S30) [.int .i64 1, .int .i64 1, .int .i64 0] from (k30_mkM _ _ _ (⟨1, 1, 0⟩ : S30) )) (Reps.none _ _)))); intro v110 w6 ho7 hb hg_ hnew_; clear hg_ hnew_; (first | rw [← Ny109.out] at ho7 | (simp only [Int.reduceToNat] at ho7; rw [← Ny109.out] at ho7)); have n0_ := Aside0.mk (Kd.R_lower ho7 (below_size (by repeat (first | (with_reducible first | exact HB.out | apply below_alloc | apply pw_below_drewN | apply below_drew1) | exact HB.out)))); have n1_ := Aside0.mk (below_step (by repeat (first | (with_reducible first | exact HB.out | apply below_alloc | apply pw_below_drewN | apply below_drew1) | exact HB.out)) hb); clear HB; have HO111 := n0_; have HB := n1_; clear n0_ n1_; clear hb ho7; obtain ⟨Ao8, co8, eo8⟩ := Kd.R_slice HO111.out; subst eo8) | ((with_reducible refine gate_callee (f := 8) rfl ?_); refine goesL_ (some 5) rfl rfl Try.func8 (by kernel_rfl) rfl #[.int .i64 2, .slice Ao8 y109.length co8] rfl (by (try simp only [List.map_toArray, List.map_cons, List.map_nil]); first | done | rfl | (simp only [List.length_drop, List.length_take]; rfl)) ?_; (with_reducible refine (impl_Cache.calls 2 _ _ y109 t112 _ ?side1 ?side2 A1.out).mono ?_); (case side1 => repeat (first | exact (Kd.R_reads' HO111.out).2.2 | (with_reducible refine Kd.C_alloc ?_ _) | (with_reducible refine Kd.C_drewN ?_ _) | (with_reducible refine Kd.C_drew ?_))); (case side2 => exact (Kd.R_reads' HO111.out).2.1); rintro e w9 ⟨v113, rfl, ho0, hb⟩; refine ⟨_, rfl, ?_⟩; have n0_ := Aside0.mk (Kd.R_below (by (with_reducible repeat (first | apply Kd.R_alloc | apply Kd.R_drewN | apply Kd.R_drew)); exact HO111.out) hb); have n1_ := Aside0.mk (Kd.R_lower ho0 (below_size (by repeat (first | (with_reducible first | exact HB.out | apply below_alloc | apply pw_below_drewN | apply below_drew1) | exact HB.out)))); have n2_ := Aside0.mk (below_step (by repeat (first | (with_reducible first | exact HB.out | apply below_alloc | apply pw_below_drewN | apply below_drew1) | exact HB.out)) hb); clear HO111; clear HB; have HO111 := n0_; have HO114 := n1_; have HB := n2_; clear n0_ n1_ n2_; (try clear hb); (try clear hb2); (try clear hk); (try clear hi); (try clear ho0); obtain ⟨Ao10, co10, eo10⟩ := Kd.R_slice HO114.out; subst eo10; have p115 : 0 ≤ (1 : Int) := (by omega); have q115 : 1 < (t112.length : Int) := of_decide_eq_true (by first | (with_reducible assumption) | assumption); obtain ⟨ad115, e115, hx115_0, hx115_1⟩ := at_T32 (Kd.R_reads' HO114.out).2.2 1 p115 q115; (try rw [← Nbq4.out] at hx115_0); cases e115; (try simp only [show (1 : Int).toNat = 1 from rfl, Nat.reduceMul, Nat.reduceEqDiff, Go.Addr.add, ↓reduceIte] at hx115_0); (try simp only [show (1 : Int).toNat = 1 from rfl, Nat.reduceMul, Nat.reduceEqDiff, Go.Addr.add, ↓reduceIte] at hx115_1); have qi115 : (1 < t112.length) = True := eq_true (by omega); (try rw [show ((1 : Int)).toNat = 1 from rfl] at hx115_0); (try rw [show 1 * 2 = 2 from rfl] at hx115_0); (try rw [show ((1 : Int)).toNat = 1 from rfl] at hx115_1); (try rw [show 1 * 2 = 2 from rfl] at hx115_1); replace p115 := eq_true p115; replace q115 := eq_true q115; have p116 : 0 ≤ (1 : Int) := (by omega); have q116 : 1 < (t112.length : Int) := of_decide_eq_true (by first | (with_reducible assumption) | assumption); obtain ⟨ad116, e116, hx116_0, hx116_1⟩ := at_T32 (Kd.R_reads' HO114.out).2.2 1 p116 q116; (try rw [← Nbq4.out] at hx116_0); obtain rfl : ad115 = ad116 := (by injection e116); (try simp only [show (1 : Int).toNat = 1 from rfl, Nat.reduceMul, Nat.reduceEqDiff, Go.Addr.add, ↓reduceIte] at hx116_0); (try simp only [show (1 : Int).toNat = 1 from rfl, Nat.reduceMul, Nat.reduceEqDiff, Go.Addr.add, ↓reduceIte] at hx116_1); have qi116 : (1 < t112.length) = True := eq_true (by omega); (try rw [show ((1 : Int)).toNat = 1 from rfl] at hx116_0); (try rw [show 1 * 2 = 2 from rfl] at hx116_0); (try rw [show ((1 : Int)).toNat = 1 from rfl] at hx116_1); (try rw [show 1 * 2 = 2 from rfl] at hx116_1); replace p116 := eq_true p116; replace q116 := eq_true q116))
        go_ret
        exact ⟨by first | rfl | (simp [errW_none, errW_some] <;> rfl) | (simp [*, errW_none, errW_some] <;> rfl), by repeat (first | (with_reducible first | exact HB.out | apply below_alloc | apply pw_below_drewN | apply below_drew1) | exact HB.out)⟩
      · replace c5 := Bool.eq_false_iff.mpr c5
        subst c5
        have H1 : (some false) = some r := by rw [if_neg (show ¬ (false = true) by decide)] at H; exact H
        clear H
        have H := H1
        clear H1
        obtain rfl := Option.some.inj H
        go_enter Try.func6, Try.ntmps6
        go_wp2_with (first | ((with_reducible refine gate_dst (N := 4) rfl ?_); refine Kd.R_lit k30 _ 30 ?hg (N := 4) ?hd (xs := ([(⟨0, 1, 7⟩ : S30), (⟨1, 1, 0⟩ : S30)] : List (S30))) (inner := [.int .i64 0, .int .i64 1, .int .i64 7, .int .i64 1, .int .i64 1, .int .i64 0]) (ok := fun _ => True) (okp := fun _ => True) ?hr ?hp (fun _ hk => hk) trivial (Below.refl _ _) (Nat.le_refl _) (by simp) ?_; (case hd => rfl); (case hg => rfl); (case hr => first | (go_simp; done) | (go_simp; rfl)); (case hp => exact (Reps.c3 (show Kd.M k30 _ _ _ (⟨0, 1, 7⟩ : S30) [.int .i64 0, .int .i64 1, .int .i64 7] from (k30_mkM _ _ _ (⟨0, 1, 7⟩ : S30) )) (Reps.c3 (show Kd.M k30 _ _ _ (⟨1, 1, 0⟩ : S30) [.int .i64 1, .int .i64 1, .int .i64 0] from (k30_mkM _ _ _ (⟨1, 1, 0⟩ : S30) )) (Reps.none _ _)))); intro v110 w11 ho12 hb hg_ hnew_; clear hg_ hnew_; (first | rw [← Ny109.out] at ho12 | (simp only [Int.reduceToNat] at ho12; rw [← Ny109.out] at ho12)); have n0_ := Aside0.mk (Kd.R_lower ho12 (below_size (by repeat (first | (with_reducible first | exact HB.out | apply below_alloc | apply pw_below_drewN | apply below_drew1) | exact HB.out)))); have n1_ := Aside0.mk (below_step (by repeat (first | (with_reducible first | exact HB.out | apply below_alloc | apply pw_below_drewN | apply below_drew1) | exact HB.out)) hb); clear HB; have HO111 := n0_; have HB := n1_; clear n0_ n1_; clear hb ho12; obtain ⟨Ao13, co13, eo13⟩ := Kd.R_slice HO111.out; subst eo13) | ((with_reducible refine gate_callee (f := 8) rfl ?_); refine goesL_ (some 5) rfl rfl Try.func8 (by kernel_rfl) rfl #[.int .i64 2, .slice Ao13 y109.length co13] rfl (by (try simp only [List.map_toArray, List.map_cons, List.map_nil]); first | done | rfl | (simp only [List.length_drop, List.length_take]; rfl)) ?_; (with_reducible refine (impl_Cache.calls 2 _ _ y109 t112 _ ?side1 ?side2 A1.out).mono ?_); (case side1 => repeat (first | exact (Kd.R_reads' HO111.out).2.2 | (with_reducible refine Kd.C_alloc ?_ _) | (with_reducible refine Kd.C_drewN ?_ _) | (with_reducible refine Kd.C_drew ?_))); (case side2 => exact (Kd.R_reads' HO111.out).2.1); rintro e w14 ⟨v113, rfl, ho0, hb⟩; refine ⟨_, rfl, ?_⟩; have n0_ := Aside0.mk (Kd.R_below (by (with_reducible repeat (first | apply Kd.R_alloc | apply Kd.R_drewN | apply Kd.R_drew)); exact HO111.out) hb); have n1_ := Aside0.mk (Kd.R_lower ho0 (below_size (by repeat (first | (with_reducible first | exact HB.out | apply below_alloc | apply pw_below_drewN | apply below_drew1) | exact HB.out)))); have n2_ := Aside0.mk (below_step (by repeat (first | (with_reducible first | exact HB.out | apply below_alloc | apply pw_below_drewN | apply below_drew1) | exact HB.out)) hb); clear HO111; clear HB; have HO111 := n0_; have HO114 := n1_; have HB := n2_; clear n0_ n1_ n2_; (try clear hb); (try clear hb2); (try clear hk); (try clear hi); (try clear ho0); obtain ⟨Ao15, co15, eo15⟩ := Kd.R_slice HO114.out; subst eo15; have p115 : 0 ≤ (1 : Int) := (by omega); have q115 : 1 < (t112.length : Int) := of_decide_eq_true (by first | (with_reducible assumption) | assumption); obtain ⟨ad115, e115, hx115_0, hx115_1⟩ := at_T32 (Kd.R_reads' HO114.out).2.2 1 p115 q115; (try rw [← Nbq4.out] at hx115_0); cases e115; (try simp only [show (1 : Int).toNat = 1 from rfl, Nat.reduceMul, Nat.reduceEqDiff, Go.Addr.add, ↓reduceIte] at hx115_0); (try simp only [show (1 : Int).toNat = 1 from rfl, Nat.reduceMul, Nat.reduceEqDiff, Go.Addr.add, ↓reduceIte] at hx115_1); have qi115 : (1 < t112.length) = True := eq_true (by omega); (try rw [show ((1 : Int)).toNat = 1 from rfl] at hx115_0); (try rw [show 1 * 2 = 2 from rfl] at hx115_0); (try rw [show ((1 : Int)).toNat = 1 from rfl] at hx115_1); (try rw [show 1 * 2 = 2 from rfl] at hx115_1); replace p115 := eq_true p115; replace q115 := eq_true q115))
        go_ret
        exact ⟨by first | rfl | (simp [errW_none, errW_some] <;> rfl) | (simp [*, errW_none, errW_some] <;> rfl), by repeat (first | (with_reducible first | exact HB.out | apply below_alloc | apply pw_below_drewN | apply below_drew1) | exact HB.out)⟩
    · rw [if_neg c3] at H
      exact absurd H (by simp)
  · rw [if_neg c2] at H
    have c2b0 : ((t112.length : Int) == 2) = false := beq_eq_false_iff_ne.mpr c2
    have c2b1 : ((t112.length : Int) != 2) = true := bne_iff_ne.mpr c2
    obtain rfl := Option.some.inj H
    go_enter Try.func6, Try.ntmps6
    go_wp2_with (first | ((with_reducible refine gate_dst (N := 4) rfl ?_); refine Kd.R_lit k30 _ 30 ?hg (N := 4) ?hd (xs := ([(⟨0, 1, 7⟩ : S30), (⟨1, 1, 0⟩ : S30)] : List (S30))) (inner := [.int .i64 0, .int .i64 1, .int .i64 7, .int .i64 1, .int .i64 1, .int .i64 0]) (ok := fun _ => True) (okp := fun _ => True) ?hr ?hp (fun _ hk => hk) trivial (Below.refl _ _) (Nat.le_refl _) (by simp) ?_; (case hd => rfl); (case hg => rfl); (case hr => first | (go_simp; done) | (go_simp; rfl)); (case hp => exact (Reps.c3 (show Kd.M k30 _ _ _ (⟨0, 1, 7⟩ : S30) [.int .i64 0, .int .i64 1, .int .i64 7] from (k30_mkM _ _ _ (⟨0, 1, 7⟩ : S30) )) (Reps.c3 (show Kd.M k30 _ _ _ (⟨1, 1, 0⟩ : S30) [.int .i64 1, .int .i64 1, .int .i64 0] from (k30_mkM _ _ _ (⟨1, 1, 0⟩ : S30) )) (Reps.none _ _)))); intro v110 w16 ho17 hb hg_ hnew_; clear hg_ hnew_; (first | rw [← Ny109.out] at ho17 | (simp only [Int.reduceToNat] at ho17; rw [← Ny109.out] at ho17)); have n0_ := Aside0.mk (Kd.R_lower ho17 (below_size (by repeat (first | (with_reducible first | exact HB.out | apply below_alloc | apply pw_below_drewN | apply below_drew1) | exact HB.out)))); have n1_ := Aside0.mk (below_step (by repeat (first | (with_reducible first | exact HB.out | apply below_alloc | apply pw_below_drewN | apply below_drew1) | exact HB.out)) hb); clear HB; have HO111 := n0_; have HB := n1_; clear n0_ n1_; clear hb ho17; obtain ⟨Ao18, co18, eo18⟩ := Kd.R_slice HO111.out; subst eo18) | ((with_reducible refine gate_callee (f := 8) rfl ?_); refine goesL_ (some 5) rfl rfl Try.func8 (by kernel_rfl) rfl #[.int .i64 2, .slice Ao18 y109.length co18] rfl (by (try simp only [List.map_toArray, List.map_cons, List.map_nil]); first | done | rfl | (simp only [List.length_drop, List.length_take]; rfl)) ?_; (with_reducible refine (impl_Cache.calls 2 _ _ y109 t112 _ ?side1 ?side2 A1.out).mono ?_); (case side1 => repeat (first | exact (Kd.R_reads' HO111.out).2.2 | (with_reducible refine Kd.C_alloc ?_ _) | (with_reducible refine Kd.C_drewN ?_ _) | (with_reducible refine Kd.C_drew ?_))); (case side2 => exact (Kd.R_reads' HO111.out).2.1); rintro e w19 ⟨v113, rfl, ho0, hb⟩; refine ⟨_, rfl, ?_⟩; have n0_ := Aside0.mk (Kd.R_below (by (with_reducible repeat (first | apply Kd.R_alloc | apply Kd.R_drewN | apply Kd.R_drew)); exact HO111.out) hb); have n1_ := Aside0.mk (Kd.R_lower ho0 (below_size (by repeat (first | (with_reducible first | exact HB.out | apply below_alloc | apply pw_below_drewN | apply below_drew1) | exact HB.out)))); have n2_ := Aside0.mk (below_step (by repeat (first | (with_reducible first | exact HB.out | apply below_alloc | apply pw_below_drewN | apply below_drew1) | exact HB.out)) hb); clear HO111; clear HB; have HO111 := n0_; have HO114 := n1_; have HB := n2_; clear n0_ n1_ n2_; (try clear hb); (try clear hb2); (try clear hk); (try clear hi); (try clear ho0); obtain ⟨Ao20, co20, eo20⟩ := Kd.R_slice HO114.out; subst eo20))
    go_ret
    exact ⟨by first | rfl | (simp [errW_none, errW_some] <;> rfl) | (simp [*, errW_none, errW_some] <;> rfl), by repeat (first | (with_reducible first | exact HB.out | apply below_alloc | apply pw_below_drewN | apply below_drew1) | exact HB.out)⟩

/-! ### laws_sameGot: function 7 -/
def laws_sameGot.l0 : Nat → List (S32) → List (S32) → Int → Option (Bool)
  | 0, _, _, _ => none
  | k + 1, x0, x1, x5 => if x5 < (x0.length : Int) then (if 0 ≤ x5 then (if x5 < (x1.length : Int) then (if (!(((rd_T32 x0 x5).f0) == ((rd_T32 x1 x5).f0)) || (!(((rd_T32 x0 x5).f1) == ((rd_T32 x1 x5).f1)))) = true then (some false) else (laws_sameGot.l0 k x0 x1 (wrap64 (x5 + 1)))) else (none)) else (none)) else (some true)
def laws_sameGot.f (k : Nat) (l0 : List (S32)) (l1 : List (S32)) : Option (Bool) := if (l0.length : Int) = (l1.length : Int) then (laws_sameGot.l0 k l0 l1 0) else (some false)
theorem laws_sameGot.mono_l : ∀ k, (∀ y0 y1 y2, LeO (laws_sameGot.l0 k y0 y1 y2) (laws_sameGot.l0 (k + 1) y0 y1 y2))
  | 0 => fun _ _ _ r h => by simp [laws_sameGot.l0] at h
  | k + 1 => by
    have ih0 := laws_sameGot.mono_l k
    · intro y0 y1 y2
      unfold laws_sameGot.l0
      repeat' first
      | (with_reducible exact ih0 _ _ _)
      | (with_reducible exact LeO.refl _)
      | (with_reducible exact LeO.none _)
      | (with_reducible refine LeO.ite ?_ ?_)
      | (with_reducible refine LeO.bind ?_ (fun _ => ?_))
      | exact ih0 _ _ _
      | exact LeO.none _
      | refine LeO.ite ?_ ?_
      | refine LeO.bind ?_ (fun _ => ?_)
theorem laws_sameGot.mono : ∀ a0 a1 k, LeO (laws_sameGot.f k a0 a1) (laws_sameGot.f (k + 1) a0 a1) := by
  intro a0 a1 k
  have ih0 := laws_sameGot.mono_l k
  unfold laws_sameGot.f
  repeat' first
      | (with_reducible exact ih0 _ _ _)
      | (with_reducible exact LeO.refl _)
      | (with_reducible exact LeO.none _)
      | (with_reducible refine LeO.ite ?_ ?_)
      | (with_reducible refine LeO.bind ?_ (fun _ => ?_))
      | exact ih0 _ _ _
      | exact LeO.none _
      | refine LeO.ite ?_ ?_
      | refine LeO.bind ?_ (fun _ => ?_)
set_option maxHeartbeats 8000000 in
set_option maxRecDepth 100000 in
theorem laws_sameGot.calls (k : Nat) (A0 : Option Addr) (c0 : Nat) (l0 : List (S32)) (A1 : Option Addr) (c1 : Nat) (l1 : List (S32)) (r : Bool) (w : World) (hr0 : Kd.C k32 w A0 l0.length l0) (hc0 : l0.length ≤ c0) (hr1 : Kd.C k32 w A1 l1.length l1) (hc1 : l1.length ≤ c1) (h : laws_sameGot.f k l0 l1 = some r) :
    Calls Try.prog 7 #[.slice A0 l0.length c0, .slice A1 l1.length c1] w fun e w' => e = .returned (.bool r) ∧ Drawn0 w w' := by
  have hu32 := Try.underlying32
  have HR0 := Aside0.mk hr0
  have HC0 := Aside0.mk hc0
  clear hr0 hc0
  have HR1 := Aside0.mk hr1
  have HC1 := Aside0.mk hc1
  clear hr1 hc1
  have H : (if (l0.length : Int) = (l1.length : Int) then (laws_sameGot.l0 k l0 l1 0) else (some false)) = some r := h
  clear h
  by_cases c3 : (l0.length : Int) = (l1.length : Int)
  · rw [if_pos c3] at H
    have c3b0 : ((l0.length : Int) == (l1.length : Int)) = true := beq_iff_eq.mpr c3
    have c3b1 : ((l0.length : Int) != (l1.length : Int)) = false := bne_eq_false_iff_eq.mpr c3
    have c3b2 : (l0.length == l1.length) = true := by first | simpa using c3 | (simp at c3 ⊢; omega)
    clear c3
    have H' := Aside0.mk H
    clear H
    go_enter Try.func7, Try.ntmps7
    go_wp2
    repeat (go_quiet (fail); try go_wp2)
    go_loopg [5] k (fun kq v5 w' => ∃ (x5_1 : Int), v5 = .int .i64 x5_1 ∧ Aside0 (laws_sameGot.l0 kq l0 l1 x5_1 = some r) ∧ Aside0 (kq ≤ k) ∧ Drawn0 w w')
    case atStart => exact ⟨(0), (by first | rfl | (simp; done) | (simp [*]; done)), H', ⟨Nat.le_refl _⟩, by repeat (first | exact Drawn0.refl _ | apply Drawn0.step)⟩
    case round =>
      clear H'
      try clear c1
      try clear p2
      try clear c3
      try clear c3b0
      try clear c3b1
      try clear c3b2
      obtain ⟨x5_1, rfl, HA, HK1, ⟨m1, rfl⟩⟩ := hrel
      cases gk with
      | zero => exact absurd HA.out (by simp [laws_sameGot.l0])
      | succ k1 =>
        have H := HA.out
        clear HA
        simp only [laws_sameGot.l0] at H
        by_cases c4 : x5_1 < (l0.length : Int)
        · rw [if_pos c4] at H
          have c4b0 : decide (x5_1 < (l0.length : Int)) = true := decide_eq_true c4
          clear c4
          by_cases c5 : 0 ≤ x5_1
          · rw [if_pos c5] at H
            have c5b0 : decide (0 ≤ x5_1) = true := decide_eq_true c5
            clear c5
            by_cases c6 : x5_1 < (l1.length : Int)
            · rw [if_pos c6] at H
              have c6b0 : decide (x5_1 < (l1.length : Int)) = true := decide_eq_true c6
              clear c6
              by_cases c7 : (!(((rd_T32 l0 x5_1).f0) == ((rd_T32 l1 x5_1).f0)) || (!(((rd_T32 l0 x5_1).f1) == ((rd_T32 l1 x5_1).f1)))) = true
              · rw [if_pos c7] at H
                have c7b0 : (!(((rd_T32 l0 x5_1).f0) == ((rd_T32 l1 x5_1).f0)) || (!(((rd_T32 l0 x5_1).f1) == ((rd_T32 l1 x5_1).f1)))) = true := c7
                clear c7
                obtain rfl := Option.some.inj H
                have p117 : 0 ≤ (x5_1 : Int) := of_decide_eq_true (by first | (with_reducible assumption) | assumption)
                have q117 : x5_1 < (l0.length : Int) := of_decide_eq_true (by first | (with_reducible assumption) | assumption)
                obtain ⟨ad117, e117, hx117_0, hx117_1⟩ := at_T32 HR0.out x5_1 p117 q117
                cases e117
                replace p117 := eq_true p117
                replace q117 := eq_true q117
                have p118 : 0 ≤ (x5_1 : Int) := of_decide_eq_true (by first | (with_reducible assumption) | assumption)
                have q118 : x5_1 < (l1.length : Int) := of_decide_eq_true (by first | (with_reducible assumption) | assumption)
                obtain ⟨ad118, e118, hx118_0, hx118_1⟩ := at_T32 HR1.out x5_1 p118 q118
                cases e118
                replace p118 := eq_true p118
                replace q118 := eq_true q118
                go_wp2
                repeat (go_quiet (fail); try go_wp2)
                go_ret
                exact ⟨by first | rfl | (simp; done) | (simp [*]; done), by repeat (first | exact Drawn0.refl _ | apply Drawn0.step)⟩
              · rw [if_neg c7] at H
                have c7b0 : (!(((rd_T32 l0 x5_1).f0) == ((rd_T32 l1 x5_1).f0)) || (!(((rd_T32 l0 x5_1).f1) == ((rd_T32 l1 x5_1).f1)))) = false := by simpa using c7
                clear c7
                have H' := Aside0.mk H
                clear H
                have p117 : 0 ≤ (x5_1 : Int) := of_decide_eq_true (by first | (with_reducible assumption) | assumption)
                have q117 : x5_1 < (l0.length : Int) := of_decide_eq_true (by first | (with_reducible assumption) | assumption)
                obtain ⟨ad117, e117, hx117_0, hx117_1⟩ := at_T32 HR0.out x5_1 p117 q117
                cases e117
                replace p117 := eq_true p117
                replace q117 := eq_true q117
                have p118 : 0 ≤ (x5_1 : Int) := of_decide_eq_true (by first | (with_reducible assumption) | assumption)
                have q118 : x5_1 < (l1.length : Int) := of_decide_eq_true (by first | (with_reducible assumption) | assumption)
                obtain ⟨ad118, e118, hx118_0, hx118_1⟩ := at_T32 HR1.out x5_1 p118 q118
                cases e118
                replace p118 := eq_true p118
                replace q118 := eq_true q118
                go_wp2
                repeat (go_quiet (fail); try go_wp2)
                go_roundg k1
                case measure => have := HK1.out; omega
                case rel => exact ⟨(wrap64 (x5_1 + 1)), (by first | rfl | (simp; done) | (simp [*]; done)), H', ⟨by have := HK1.out; omega⟩, by repeat (first | exact Drawn0.refl _ | apply Drawn0.step)⟩
            · rw [if_neg c6] at H
              exact absurd H (by simp)
          · rw [if_neg c5] at H
            exact absurd H (by simp)
        · rw [if_neg c4] at H
          have c4b0 : decide (x5_1 < (l0.length : Int)) = false := decide_eq_false c4
          clear c4
          obtain rfl := Option.some.inj H
          go_wp2
          repeat (go_quiet (fail); try go_wp2)
          go_ret
          exact ⟨by first | rfl | (simp; done) | (simp [*]; done), by repeat (first | exact Drawn0.refl _ | apply Drawn0.step)⟩
  · rw [if_neg c3] at H
    have c3b0 : ((l0.length : Int) == (l1.length : Int)) = false := beq_eq_false_iff_ne.mpr c3
    have c3b1 : ((l0.length : Int) != (l1.length : Int)) = true := bne_iff_ne.mpr c3
    have c3b2 : (l0.length == l1.length) = false := by first | simpa using c3 | (simp at c3 ⊢; omega)
    obtain rfl := Option.some.inj H
    go_enter Try.func7, Try.ntmps7
    go_wp2
    repeat (go_quiet (fail); try go_wp2)
    go_ret
    exact ⟨by first | rfl | (simp; done) | (simp [*]; done), by repeat (first | exact Drawn0.refl _ | apply Drawn0.step)⟩

end Go.Proofs.Ytikjdoemkibadaa.PFnCache
