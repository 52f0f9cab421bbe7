/- The machine side of laws.FnEvaled: each function of this text answers what its Lean function answers (written for this claim by a program of this session over the kit's print; no condition beyond what each theorem says). -/
import Derived.Test.YtnbcohabllkneaaOFnEvaledx0
import Derived.Test.YtnbcohabllkneaaOFnEvaledx1
import Derived.Test.YtnbcohabllkneaaOFnEvaledx2
namespace Go.Proofs.Ytnbcohabllkneaa.PFnEvaled
open Go.RowKit Go.Proofs.YtnbcohabllkneaaW.PrintWords Go.Proofs.YtnbcohabllkneaaW.PrintLast Go.Proofs.YtnbcohabllkneaaW.PrintMore
attribute [local go_sem] max2_int min2_int max_two min_two max_three min_three max_four min_four   -- for this text's walks alone
set_option linter.unusedVariables false
set_option linter.unusedSimpArgs false

/-! ### laws_awakeUtil: function 14 -/
def laws_awakeUtil.f (k : Nat)  : Option (Bool) := (impl_KeyMatch.f k (⟨#[47, 102, 111, 111, 47, 98, 97, 114]⟩ : ByteArray) (⟨#[47, 102, 111, 111, 47, 42]⟩ : ByteArray)).bind fun t113 => (if t113 = true then ((impl_KeyGet.f k (⟨#[47, 102, 111, 111, 47, 98, 97, 114]⟩ : ByteArray) (⟨#[47, 102, 111, 111, 47, 42]⟩ : ByteArray)).bind fun t114 => (if t114.toList = ([98, 97, 114] : List UInt8) then ((impl_ArrayEquals.f k (([(⟨#[97]⟩ : ByteArray)] : List ByteArray)) (([(⟨#[97]⟩ : ByteArray)] : List ByteArray))).bind fun t121 => (if t121 = true then ((impl_EscapeAssertion.f k (⟨#[114, 46, 115, 117, 98]⟩ : ByteArray)).bind fun t122 => (some (t122.toList == ([114, 95, 115, 117, 98] : List UInt8)))) else (some false))) else (some false))) else (some false))
theorem laws_awakeUtil.mono : ∀ k, LeO (laws_awakeUtil.f k ) (laws_awakeUtil.f (k + 1) ) := by
  intro  k
  unfold laws_awakeUtil.f
  repeat' first
      | (with_reducible exact impl_ArrayEquals.mono _ _ _)
      | (with_reducible exact impl_EscapeAssertion.mono _ _)
      | (with_reducible exact impl_KeyGet.mono _ _ _)
      | (with_reducible exact impl_KeyMatch.mono _ _ _)
      | (with_reducible exact LeO.refl _)
      | (with_reducible exact LeO.none _)
      | (with_reducible refine LeO.ite ?_ ?_)
      | (with_reducible refine LeO.bind ?_ (fun _ => ?_))
      | exact impl_ArrayEquals.mono _ _ _
      | exact impl_EscapeAssertion.mono _ _
      | exact impl_KeyGet.mono _ _ _
      | exact impl_KeyMatch.mono _ _ _
      | exact LeO.none _
      | refine LeO.ite ?_ ?_
      | refine LeO.bind ?_ (fun _ => ?_)
set_option maxHeartbeats 8000000 in
set_option maxRecDepth 100000 in
theorem laws_awakeUtil.calls (k : Nat)  (r : Bool) (w : World) (h : laws_awakeUtil.f k  = some r) :
    Calls Try.prog 14 #[] w fun e w' => e = .returned (.bool r) ∧ Below w.heap.size w w' := by
  have HB := Aside0.mk (Below.refl w.heap.size w)
  have H : ((impl_KeyMatch.f k (⟨#[47, 102, 111, 111, 47, 98, 97, 114]⟩ : ByteArray) (⟨#[47, 102, 111, 111, 47, 42]⟩ : ByteArray)).bind fun t113 => (if t113 = true then ((impl_KeyGet.f k (⟨#[47, 102, 111, 111, 47, 98, 97, 114]⟩ : ByteArray) (⟨#[47, 102, 111, 111, 47, 42]⟩ : ByteArray)).bind fun t114 => (if t114.toList = ([98, 97, 114] : List UInt8) then ((impl_ArrayEquals.f k (([(⟨#[97]⟩ : ByteArray)] : List ByteArray)) (([(⟨#[97]⟩ : ByteArray)] : List ByteArray))).bind fun t121 => (if t121 = true then ((impl_EscapeAssertion.f k (⟨#[114, 46, 115, 117, 98]⟩ : ByteArray)).bind fun t122 => (some (t122.toList == ([114, 95, 115, 117, 98] : List UInt8)))) else (some false))) else (some false))) else (some false))) = some r := h
  clear h
  replace H := Option.bind_eq_some_iff.mp H
  obtain ⟨t113, A10, H⟩ := H
  replace H : (if t113 = true then ((impl_KeyGet.f k (⟨#[47, 102, 111, 111, 47, 98, 97, 114]⟩ : ByteArray) (⟨#[47, 102, 111, 111, 47, 42]⟩ : ByteArray)).bind fun t114 => (if t114.toList = ([98, 97, 114] : List UInt8) then ((impl_ArrayEquals.f k (([(⟨#[97]⟩ : ByteArray)] : List ByteArray)) (([(⟨#[97]⟩ : ByteArray)] : List ByteArray))).bind fun t121 => (if t121 = true then ((impl_EscapeAssertion.f k (⟨#[114, 46, 115, 117, 98]⟩ : ByteArray)).bind fun t122 => (some (t122.toList == ([114, 95, 115, 117, 98] : List UInt8)))) else (some false))) else (some false))) else (some false)) = some r := H
  have A1 := Aside0.mk A10
  clear A10
  by_cases c2 : t113 = true
  · subst c2
    have H1 : ((impl_KeyGet.f k (⟨#[47, 102, 111, 111, 47, 98, 97, 114]⟩ : ByteArray) (⟨#[47, 102, 111, 111, 47, 42]⟩ : ByteArray)).bind fun t114 => (if t114.toList = ([98, 97, 114] : List UInt8) then ((impl_ArrayEquals.f k (([(⟨#[97]⟩ : ByteArray)] : List ByteArray)) (([(⟨#[97]⟩ : ByteArray)] : List ByteArray))).bind fun t121 => (if t121 = true then ((impl_EscapeAssertion.f k (⟨#[114, 46, 115, 117, 98]⟩ : ByteArray)).bind fun t122 => (some (t122.toList == ([114, 95, 115, 117, 98] : List UInt8)))) else (some false))) else (some false))) = some r := by rw [if_pos rfl] at H; exact H
    clear H
    have H := H1
    clear H1
    replace H := Option.bind_eq_some_iff.mp H
    obtain ⟨t114, A30, H⟩ := H
    replace H : (if t114.toList = ([98, 97, 114] : List UInt8) then ((impl_ArrayEquals.f k (([(⟨#[97]⟩ : ByteArray)] : List ByteArray)) (([(⟨#[97]⟩ : ByteArray)] : List ByteArray))).bind fun t121 => (if t121 = true then ((impl_EscapeAssertion.f k (⟨#[114, 46, 115, 117, 98]⟩ : ByteArray)).bind fun t122 => (some (t122.toList == ([114, 95, 115, 117, 98] : List UInt8)))) else (some false))) else (some false)) = some r := H
    have A3 := Aside0.mk A30
    clear A30
    by_cases c4 : t114.toList = ([98, 97, 114] : List UInt8)
    · rw [if_pos c4] at H
      have c4b0 : (t114.toList == ([98, 97, 114] : List UInt8)) = true := beq_iff_eq.mpr c4
      have c4b1 : (t114.toList != ([98, 97, 114] : List UInt8)) = false := bne_eq_false_iff_eq.mpr c4
      clear c4
      obtain ⟨y115, hy115⟩ : ∃ y_ : List ByteArray, y_ = (([(⟨#[97]⟩ : ByteArray)] : List ByteArray)) := ⟨_, rfl⟩
      replace H : ((impl_ArrayEquals.f k y115 (([(⟨#[97]⟩ : ByteArray)] : List ByteArray))).bind fun t121 => (if t121 = true then ((impl_EscapeAssertion.f k (⟨#[114, 46, 115, 117, 98]⟩ : ByteArray)).bind fun t122 => (some (t122.toList == ([114, 95, 115, 117, 98] : List UInt8)))) else (some false))) = some r := by first | (rw [hy115]; with_reducible exact H) | (have H2_ := (Option.bind_some _ _).symm.trans H; rw [hy115]; with_reducible exact H2_) | (have H2_ := (Option.bind_some _ _).symm.trans H; with_reducible exact H2_) | with_reducible exact H | (rw [hy115]; exact H) | exact H
      have Ny115 := Aside0.mk hy115
      clear hy115
      obtain ⟨y118, hy118⟩ : ∃ y_ : List ByteArray, y_ = (([(⟨#[97]⟩ : ByteArray)] : List ByteArray)) := ⟨_, rfl⟩
      replace H : ((impl_ArrayEquals.f k y115 y118).bind fun t121 => (if t121 = true then ((impl_EscapeAssertion.f k (⟨#[114, 46, 115, 117, 98]⟩ : ByteArray)).bind fun t122 => (some (t122.toList == ([114, 95, 115, 117, 98] : List UInt8)))) else (some false))) = some r := by first | (rw [hy118]; with_reducible exact H) | (have H2_ := (Option.bind_some _ _).symm.trans H; rw [hy118]; with_reducible exact H2_) | (have H2_ := (Option.bind_some _ _).symm.trans H; with_reducible exact H2_) | with_reducible exact H | (rw [hy118]; exact H) | exact H
      have Ny118 := Aside0.mk hy118
      clear hy118
      replace H := Option.bind_eq_some_iff.mp H
      obtain ⟨t121, A50, H⟩ := H
      replace H : (if t121 = true then ((impl_EscapeAssertion.f k (⟨#[114, 46, 115, 117, 98]⟩ : ByteArray)).bind fun t122 => (some (t122.toList == ([114, 95, 115, 117, 98] : List UInt8)))) else (some false)) = some r := H
      have A5 := Aside0.mk A50
      clear A50
      by_cases c6 : t121 = true
      · subst c6
        have H1 : ((impl_EscapeAssertion.f k (⟨#[114, 46, 115, 117, 98]⟩ : ByteArray)).bind fun t122 => (some (t122.toList == ([114, 95, 115, 117, 98] : List UInt8)))) = some r := by rw [if_pos rfl] at H; exact H
        clear H
        have H := H1
        clear H1
        replace H := Option.bind_eq_some_iff.mp H
        obtain ⟨t122, A70, H⟩ := H
        replace H : (some (t122.toList == ([114, 95, 115, 117, 98] : List UInt8))) = some r := H
        have A7 := Aside0.mk A70
        clear A70
        obtain rfl := Option.some.inj H
        go_enter Try.func14, Try.ntmps14
        go_wp2_with (first | ((with_reducible refine gate_callee (f := 38) rfl ?_); refine goesL_ (some 1) rfl rfl Try.func38 (by kernel_rfl) rfl #[.string (⟨#[47, 102, 111, 111, 47, 98, 97, 114]⟩ : ByteArray), .string (⟨#[47, 102, 111, 111, 47, 42]⟩ : ByteArray)] rfl (by (try simp only [List.map_toArray, List.map_cons, List.map_nil]); first | done | rfl | (simp only [List.length_drop, List.length_take]; rfl)) ?_; (with_reducible refine (impl_KeyMatch.calls k (⟨#[47, 102, 111, 111, 47, 98, 97, 114]⟩ : ByteArray) (⟨#[47, 102, 111, 111, 47, 42]⟩ : ByteArray) true _ A1.out).mono ?_); rintro e w' ⟨rfl, ⟨nd, rfl⟩⟩; refine ⟨_, rfl, ?_⟩) | (go_at_call 39; (with_reducible refine (impl_KeyGet.calls k (⟨#[47, 102, 111, 111, 47, 98, 97, 114]⟩ : ByteArray) (⟨#[47, 102, 111, 111, 47, 42]⟩ : ByteArray) t114 _ A3.out).mono ?_); rintro e w' ⟨rfl, ⟨nd, rfl⟩⟩) | ((with_reducible refine gate_dst (N := 7) rfl ?_); (try (refine gate_guard (by rfl) ?_; dsimp only)); refine Kd.R_lit Kd.string _ 9 ?hg (N := 7) ?hd (xs := ([(⟨#[97]⟩ : ByteArray)] : List ByteArray)) (inner := [.string (⟨#[97]⟩ : ByteArray)]) (ok := fun _ => True) (okp := fun _ => True) ?hr ?hp (fun _ hk => hk) trivial (Below.refl _ _) (Nat.le_refl _) (by simp) ?_; (case hd => rfl); (case hg => rfl); (case hr => first | (go_simp; done) | (go_simp; rfl)); (case hp => exact (Reps.one (show Kd.M Kd.string _ _ _ (⟨#[97]⟩ : ByteArray) [.string (⟨#[97]⟩ : ByteArray)] from rfl) (Reps.none _ _))); intro v116 w8 ho9 hb hg_ hnew_; clear hg_ hnew_; (first | rw [← Ny115.out] at ho9 | (simp only [Int.reduceToNat] at ho9; rw [← Ny115.out] at ho9)); have n0_ := Aside0.mk (Kd.R_lower ho9 (below_size (by repeat (first | (with_reducible first | exact HB.out | apply below_alloc | apply pw_below_drewN | apply below_drew1) | exact HB.out)))); have n1_ := Aside0.mk (below_step (by repeat (first | (with_reducible first | exact HB.out | apply below_alloc | apply pw_below_drewN | apply below_drew1) | exact HB.out)) hb); clear HB; have HO117 := n0_; have HB := n1_; clear n0_ n1_; clear hb ho9) | ((with_reducible refine gate_dst (N := 8) rfl ?_); (try (refine gate_guard (by rfl) ?_; dsimp only)); refine Kd.R_lit Kd.string _ 9 ?hg (N := 8) ?hd (xs := ([(⟨#[97]⟩ : ByteArray)] : List ByteArray)) (inner := [.string (⟨#[97]⟩ : ByteArray)]) (ok := fun _ => True) (okp := fun _ => True) ?hr ?hp (fun _ hk => hk) trivial (Below.refl _ _) (Nat.le_refl _) (by simp) ?_; (case hd => rfl); (case hg => rfl); (case hr => first | (go_simp; done) | (go_simp; rfl)); (case hp => exact (Reps.one (show Kd.M Kd.string _ _ _ (⟨#[97]⟩ : ByteArray) [.string (⟨#[97]⟩ : ByteArray)] from rfl) (Reps.none _ _))); intro v119 w10 ho11 hb hg_ hnew_; clear hg_ hnew_; (first | rw [← Ny118.out] at ho11 | (simp only [Int.reduceToNat] at ho11; rw [← Ny118.out] at ho11)); have n0_ := Aside0.mk (Kd.R_elder' (by (with_reducible repeat (first | apply Kd.R_alloc | apply Kd.R_drewN | apply Kd.R_drew)); exact HO117.out) (Kd.R_base ho11) hb); have n1_ := Aside0.mk (Kd.R_lower (Kd.R_new' ho11 (Kd.R_lt (by (with_reducible repeat (first | apply Kd.R_alloc | apply Kd.R_drewN | apply Kd.R_drew)); exact HO117.out))) (below_size (by repeat (first | (with_reducible first | exact HB.out | apply below_alloc | apply pw_below_drewN | apply below_drew1) | exact HB.out)))); have n2_ := Aside0.mk (below_step (by repeat (first | (with_reducible first | exact HB.out | apply below_alloc | apply pw_below_drewN | apply below_drew1) | exact HB.out)) hb); clear HO117; clear HB; have HO117 := n0_; have HO120 := n1_; have HB := n2_; clear n0_ n1_ n2_; clear hb ho11; obtain ⟨Ao12, co12, eo12⟩ := Kd.R_slice HO117.out; subst eo12; obtain ⟨Ao13, co13, eo13⟩ := Kd.R_slice HO120.out; subst eo13) | (go_at_call 15; (with_reducible refine (impl_ArrayEquals.calls k _ _ y115 _ _ y118 true _ ?side1 ?side2 ?side3 ?side4 A5.out).mono ?_); (case side1 => repeat (first | exact (Kd.R_reads' HO117.out).2.2 | (with_reducible refine Kd.C_alloc ?_ _) | (with_reducible refine Kd.C_drewN ?_ _) | (with_reducible refine Kd.C_drew ?_))); (case side2 => exact (Kd.R_reads' HO117.out).2.1); (case side3 => repeat (first | exact (Kd.R_reads' HO120.out).2.2 | (with_reducible refine Kd.C_alloc ?_ _) | (with_reducible refine Kd.C_drewN ?_ _) | (with_reducible refine Kd.C_drew ?_))); (case side4 => exact (Kd.R_reads' HO120.out).2.1); rintro e w' ⟨rfl, ⟨nd, rfl⟩⟩) | (go_at_call 40; (with_reducible refine (impl_EscapeAssertion.calls k (⟨#[114, 46, 115, 117, 98]⟩ : ByteArray) t122 _ A7.out).mono ?_); rintro e w' ⟨rfl, ⟨nd, rfl⟩⟩))
        go_ret
        exact ⟨by first | rfl | (simp [errW_none, errW_some] <;> rfl) | (simp [*, errW_none, errW_some] <;> rfl), by repeat (first | (with_reducible first | exact HB.out | apply below_alloc | apply pw_below_drewN | apply below_drew1) | exact HB.out)⟩
      · replace c6 := Bool.eq_false_iff.mpr c6
        subst c6
        have H1 : (some false) = some r := by rw [if_neg (show ¬ (false = true) by decide)] at H; exact H
        clear H
        have H := H1
        clear H1
        obtain rfl := Option.some.inj H
        go_enter Try.func14, Try.ntmps14
        go_wp2_with (first | ((with_reducible refine gate_callee (f := 38) rfl ?_); refine goesL_ (some 1) rfl rfl Try.func38 (by kernel_rfl) rfl #[.string (⟨#[47, 102, 111, 111, 47, 98, 97, 114]⟩ : ByteArray), .string (⟨#[47, 102, 111, 111, 47, 42]⟩ : ByteArray)] rfl (by (try simp only [List.map_toArray, List.map_cons, List.map_nil]); first | done | rfl | (simp only [List.length_drop, List.length_take]; rfl)) ?_; (with_reducible refine (impl_KeyMatch.calls k (⟨#[47, 102, 111, 111, 47, 98, 97, 114]⟩ : ByteArray) (⟨#[47, 102, 111, 111, 47, 42]⟩ : ByteArray) true _ A1.out).mono ?_); rintro e w' ⟨rfl, ⟨nd, rfl⟩⟩; refine ⟨_, rfl, ?_⟩) | (go_at_call 39; (with_reducible refine (impl_KeyGet.calls k (⟨#[47, 102, 111, 111, 47, 98, 97, 114]⟩ : ByteArray) (⟨#[47, 102, 111, 111, 47, 42]⟩ : ByteArray) t114 _ A3.out).mono ?_); rintro e w' ⟨rfl, ⟨nd, rfl⟩⟩) | ((with_reducible refine gate_dst (N := 7) rfl ?_); (try (refine gate_guard (by rfl) ?_; dsimp only)); refine Kd.R_lit Kd.string _ 9 ?hg (N := 7) ?hd (xs := ([(⟨#[97]⟩ : ByteArray)] : List ByteArray)) (inner := [.string (⟨#[97]⟩ : ByteArray)]) (ok := fun _ => True) (okp := fun _ => True) ?hr ?hp (fun _ hk => hk) trivial (Below.refl _ _) (Nat.le_refl _) (by simp) ?_; (case hd => rfl); (case hg => rfl); (case hr => first | (go_simp; done) | (go_simp; rfl)); (case hp => exact (Reps.one (show Kd.M Kd.string _ _ _ (⟨#[97]⟩ : ByteArray) [.string (⟨#[97]⟩ : ByteArray)] from rfl) (Reps.none _ _))); intro v116 w14 ho15 hb hg_ hnew_; clear hg_ hnew_; (first | rw [← Ny115.out] at ho15 | (simp only [Int.reduceToNat] at ho15; rw [← Ny115.out] at ho15)); have n0_ := Aside0.mk (Kd.R_lower ho15 (below_size (by repeat (first | (with_reducible first | exact HB.out | apply below_alloc | apply pw_below_drewN | apply below_drew1) | exact HB.out)))); have n1_ := Aside0.mk (below_step (by repeat (first | (with_reducible first | exact HB.out | apply below_alloc | apply pw_below_drewN | apply below_drew1) | exact HB.out)) hb); clear HB; have HO117 := n0_; have HB := n1_; clear n0_ n1_; clear hb ho15) | ((with_reducible refine gate_dst (N := 8) rfl ?_); (try (refine gate_guard (by rfl) ?_; dsimp only)); refine Kd.R_lit Kd.string _ 9 ?hg (N := 8) ?hd (xs := ([(⟨#[97]⟩ : ByteArray)] : List ByteArray)) (inner := [.string (⟨#[97]⟩ : ByteArray)]) (ok := fun _ => True) (okp := fun _ => True) ?hr ?hp (fun _ hk => hk) trivial (Below.refl _ _) (Nat.le_refl _) (by simp) ?_; (case hd => rfl); (case hg => rfl); (case hr => first | (go_simp; done) | (go_simp; rfl)); (case hp => exact (Reps.one (show Kd.M Kd.string _ _ _ (⟨#[97]⟩ : ByteArray) [.string (⟨#[97]⟩ : ByteArray)] from rfl) (Reps.none _ _))); intro v119 w16 ho17 hb hg_ hnew_; clear hg_ hnew_; (first | rw [← Ny118.out] at ho17 | (simp only [Int.reduceToNat] at ho17; rw [← Ny118.out] at ho17)); have n0_ := Aside0.mk (Kd.R_elder' (by (with_reducible repeat (first | apply Kd.R_alloc | apply Kd.R_drewN | apply Kd.R_drew)); exact HO117.out) (Kd.R_base ho17) hb); have n1_ := Aside0.mk (Kd.R_lower (Kd.R_new' ho17 (Kd.R_lt (by (with_reducible repeat (first | apply Kd.R_alloc | apply Kd.R_drewN | apply Kd.R_drew)); exact HO117.out))) (below_size (by repeat (first | (with_reducible first | exact HB.out | apply below_alloc | apply pw_below_drewN | apply below_drew1) | exact HB.out)))); have n2_ := Aside0.mk (below_step (by repeat (first | (with_reducible first | exact HB.out | apply below_alloc | apply pw_below_drewN | apply below_drew1) | exact HB.out)) hb); clear HO117; clear HB; have HO117 := n0_; have HO120 := n1_; have HB := n2_; clear n0_ n1_ n2_; clear hb ho17; obtain ⟨Ao18, co18, eo18⟩ := Kd.R_slice HO117.out; subst eo18; obtain ⟨Ao19, co19, eo19⟩ := Kd.R_slice HO120.out; subst eo19) | (go_at_call 15; (with_reducible refine (impl_ArrayEquals.calls k _ _ y115 _ _ y118 false _ ?side1 ?side2 ?side3 ?side4 A5.out).mono ?_); (case side1 => repeat (first | exact (Kd.R_reads' HO117.out).2.2 | (with_reducible refine Kd.C_alloc ?_ _) | (with_reducible refine Kd.C_drewN ?_ _) | (with_reducible refine Kd.C_drew ?_))); (case side2 => exact (Kd.R_reads' HO117.out).2.1); (case side3 => repeat (first | exact (Kd.R_reads' HO120.out).2.2 | (with_reducible refine Kd.C_alloc ?_ _) | (with_reducible refine Kd.C_drewN ?_ _) | (with_reducible refine Kd.C_drew ?_))); (case side4 => exact (Kd.R_reads' HO120.out).2.1); rintro e w' ⟨rfl, ⟨nd, rfl⟩⟩))
        go_ret
        exact ⟨by first | rfl | (simp [errW_none, errW_some] <;> rfl) | (simp [*, errW_none, errW_some] <;> rfl), by repeat (first | (with_reducible first | exact HB.out | apply below_alloc | apply pw_below_drewN | apply below_drew1) | exact HB.out)⟩
    · rw [if_neg c4] at H
      have c4b0 : (t114.toList == ([98, 97, 114] : List UInt8)) = false := beq_eq_false_iff_ne.mpr c4
      have c4b1 : (t114.toList != ([98, 97, 114] : List UInt8)) = true := bne_iff_ne.mpr c4
      obtain rfl := Option.some.inj H
      go_enter Try.func14, Try.ntmps14
      go_wp2_with (first | ((with_reducible refine gate_callee (f := 38) rfl ?_); refine goesL_ (some 1) rfl rfl Try.func38 (by kernel_rfl) rfl #[.string (⟨#[47, 102, 111, 111, 47, 98, 97, 114]⟩ : ByteArray), .string (⟨#[47, 102, 111, 111, 47, 42]⟩ : ByteArray)] rfl (by (try simp only [List.map_toArray, List.map_cons, List.map_nil]); first | done | rfl | (simp only [List.length_drop, List.length_take]; rfl)) ?_; (with_reducible refine (impl_KeyMatch.calls k (⟨#[47, 102, 111, 111, 47, 98, 97, 114]⟩ : ByteArray) (⟨#[47, 102, 111, 111, 47, 42]⟩ : ByteArray) true _ A1.out).mono ?_); rintro e w' ⟨rfl, ⟨nd, rfl⟩⟩; refine ⟨_, rfl, ?_⟩) | (go_at_call 39; (with_reducible refine (impl_KeyGet.calls k (⟨#[47, 102, 111, 111, 47, 98, 97, 114]⟩ : ByteArray) (⟨#[47, 102, 111, 111, 47, 42]⟩ : ByteArray) t114 _ A3.out).mono ?_); rintro e w' ⟨rfl, ⟨nd, rfl⟩⟩))
      go_ret
      exact ⟨by first | rfl | (simp [errW_none, errW_some] <;> rfl) | (simp [*, errW_none, errW_some] <;> rfl), by repeat (first | (with_reducible first | exact HB.out | apply below_alloc | apply pw_below_drewN | apply below_drew1) | exact HB.out)⟩
  · replace c2 := Bool.eq_false_iff.mpr c2
    subst c2
    have H1 : (some false) = some r := by rw [if_neg (show ¬ (false = true) by decide)] at H; exact H
    clear H
    have H := H1
    clear H1
    obtain rfl := Option.some.inj H
    go_enter Try.func14, Try.ntmps14
    go_wp2_with (first | ((with_reducible refine gate_callee (f := 38) rfl ?_); refine goesL_ (some 1) rfl rfl Try.func38 (by kernel_rfl) rfl #[.string (⟨#[47, 102, 111, 111, 47, 98, 97, 114]⟩ : ByteArray), .string (⟨#[47, 102, 111, 111, 47, 42]⟩ : ByteArray)] rfl (by (try simp only [List.map_toArray, List.map_cons, List.map_nil]); first | done | rfl | (simp only [List.length_drop, List.length_take]; rfl)) ?_; (with_reducible refine (impl_KeyMatch.calls k (⟨#[47, 102, 111, 111, 47, 98, 97, 114]⟩ : ByteArray) (⟨#[47, 102, 111, 111, 47, 42]⟩ : ByteArray) false _ A1.out).mono ?_); rintro e w' ⟨rfl, ⟨nd, rfl⟩⟩; refine ⟨_, rfl, ?_⟩))
    go_ret
    exact ⟨by first | rfl | (simp [errW_none, errW_some] <;> rfl) | (simp [*, errW_none, errW_some] <;> rfl), by repeat (first | (with_reducible first | exact HB.out | apply below_alloc | apply pw_below_drewN | apply below_drew1) | exact HB.out)⟩

/-! ### laws_ascii: function 23 -/
mutual
def laws_ascii.l0 : Nat → ByteArray → Int → Option (Bool)
  | 0, _, _ => none
  | k + 1, x0, x3 => if x3 < (x0.size : Int) then (laws_ascii.j1 k x0 x3 (decide (x3 ≤ 300))) else (laws_ascii.j1 k x0 x3 false)
def laws_ascii.j1 : Nat → ByteArray → Int → Bool → Option (Bool)
  | 0, _, _, _ => none
  | k + 1, x0, x3, x11 => if x11 = true then (if 0 ≤ x3 then (if x3 < (x0.size : Int) then (if (bt x0 x3) = 0 then (some false) else (if (bt x0 x3) > 126 then (some false) else (laws_ascii.l0 k x0 (wrap64 (x3 + 1))))) else (none)) else (none)) else (some (decide ((x0.size : Int) ≤ 300)))
end
def laws_ascii.f (k : Nat) (a0 : ByteArray) : Option (Bool) := laws_ascii.l0 k a0 0
theorem laws_ascii.mono_l : ∀ k, (∀ y0 y1, LeO (laws_ascii.l0 k y0 y1) (laws_ascii.l0 (k + 1) y0 y1)) ∧ (∀ y0 y1 y2, LeO (laws_ascii.j1 k y0 y1 y2) (laws_ascii.j1 (k + 1) y0 y1 y2))
  | 0 => ⟨fun _ _ r h => by simp [laws_ascii.l0] at h, fun _ _ _ r h => by simp [laws_ascii.j1] at h⟩
  | k + 1 => by
    obtain ⟨ih0, ih1⟩ := laws_ascii.mono_l k
    refine ⟨?_, ?_⟩
    · intro y0 y1
      unfold laws_ascii.l0
      repeat' first
      | (with_reducible exact ih0 _ _)
      | (with_reducible exact ih1 _ _ _)
      | (with_reducible exact LeO.refl _)
      | (with_reducible exact LeO.none _)
      | (with_reducible refine LeO.ite ?_ ?_)
      | (with_reducible refine LeO.bind ?_ (fun _ => ?_))
      | exact ih0 _ _
      | exact ih1 _ _ _
      | exact LeO.none _
      | refine LeO.ite ?_ ?_
      | refine LeO.bind ?_ (fun _ => ?_)
    · intro y0 y1 y2
      unfold laws_ascii.j1
      repeat' first
      | (with_reducible exact ih0 _ _)
      | (with_reducible exact ih1 _ _ _)
      | (with_reducible exact LeO.refl _)
      | (with_reducible exact LeO.none _)
      | (with_reducible refine LeO.ite ?_ ?_)
      | (with_reducible refine LeO.bind ?_ (fun _ => ?_))
      | exact ih0 _ _
      | exact ih1 _ _ _
      | exact LeO.none _
      | refine LeO.ite ?_ ?_
      | refine LeO.bind ?_ (fun _ => ?_)
theorem laws_ascii.mono : ∀ a0 k, LeO (laws_ascii.f k a0) (laws_ascii.f (k + 1) a0) := by
  intro a0 k
  obtain ⟨ih0, ih1⟩ := laws_ascii.mono_l k
  unfold laws_ascii.f
  repeat' first
      | (with_reducible exact ih0 _ _)
      | (with_reducible exact ih1 _ _ _)
      | (with_reducible exact LeO.refl _)
      | (with_reducible exact LeO.none _)
      | (with_reducible refine LeO.ite ?_ ?_)
      | (with_reducible refine LeO.bind ?_ (fun _ => ?_))
      | exact ih0 _ _
      | exact ih1 _ _ _
      | exact LeO.none _
      | refine LeO.ite ?_ ?_
      | refine LeO.bind ?_ (fun _ => ?_)
set_option maxHeartbeats 8000000 in
set_option maxRecDepth 100000 in
theorem laws_ascii.calls (k : Nat) (a0 : ByteArray) (r : Bool) (w : World) (h : laws_ascii.f k a0 = some r) :
    Calls Try.prog 23 #[.string a0] w fun e w' => e = .returned (.bool r) ∧ Drawn0 w w' := by
  have H : (laws_ascii.l0 k a0 0) = some r := h
  clear h
  have H' := Aside0.mk H
  clear H
  go_enter Try.func23, Try.ntmps23
  go_wp2
  go_loopg [3] k (fun kq v3 w' => ∃ (x3_1 : Int), v3 = .int .i64 x3_1 ∧ Aside0 (laws_ascii.l0 kq a0 x3_1 = some r) ∧ Aside0 (kq ≤ k) ∧ Drawn0 w w')
  case atStart => exact ⟨(0), (by first | rfl | (simp; done) | (simp [*]; done)), H', ⟨Nat.le_refl _⟩, by repeat (first | exact Drawn0.refl _ | apply Drawn0.step)⟩
  case round =>
    clear H'
    obtain ⟨x3_1, rfl, HA, HK1, ⟨m1, rfl⟩⟩ := hrel
    cases gk with
    | zero => exact absurd HA.out (by simp [laws_ascii.l0])
    | succ k1 =>
      have H := HA.out
      clear HA
      simp only [laws_ascii.l0] at H
      have HC2 := Aside0.mk H
      clear H
      go_upto_region 2 with (fail)
      go_cut [11] (fun v11 wc => ∃ (kq : Nat) (x11_1 : Bool), v11 = .bool x11_1 ∧ Aside0 (laws_ascii.j1 kq a0 x3_1 x11_1 = some r) ∧ Aside0 (kq ≤ k1) ∧ Drawn0 w wc)
      case first =>
        have H := HC2.out
        clear HC2
        by_cases c3 : x3_1 < (a0.size : Int)
        · rw [if_pos c3] at H
          have c3b0 : decide (x3_1 < (a0.size : Int)) = true := decide_eq_true c3
          clear c3
          (first | rw [c3b0] | (simp only [i64_w, i32_w]; rw [c3b0]) | skip)
          have H' := Aside0.mk H
          clear H
          go_wp2
          go_meet
          case rel => exact ⟨_, (decide (x3_1 ≤ 300)), (by first | rfl | (simp; done) | (simp [*]; done)), H', ⟨by have := HK1.out; first | omega | exact Nat.le_refl _⟩, by repeat (first | exact Drawn0.refl _ | apply Drawn0.step)⟩
        · rw [if_neg c3] at H
          have c3b0 : decide (x3_1 < (a0.size : Int)) = false := decide_eq_false c3
          clear c3
          (first | rw [c3b0] | (simp only [i64_w, i32_w]; rw [c3b0]) | skip)
          have H' := Aside0.mk H
          clear H
          go_wp2
          go_meet
          case rel => exact ⟨_, (false), (by first | rfl | (simp; done) | (simp [*]; done)), H', ⟨by have := HK1.out; first | omega | exact Nat.le_refl _⟩, by repeat (first | exact Drawn0.refl _ | apply Drawn0.step)⟩
      case rest =>
        clear HC2
        try clear c2
        try clear p2
        try clear c3
        try clear c3b0
        obtain ⟨kq, x11_1, rfl, HA, HJ1, ⟨mc1, rfl⟩⟩ := hcut
        cases kq with
        | zero => exact absurd HA.out (by simp [laws_ascii.j1])
        | succ kj1 =>
          have H := HA.out
          clear HA
          simp only [laws_ascii.j1] at H
          by_cases c4 : x11_1 = true
          · subst c4
            have H1 : (if 0 ≤ x3_1 then (if x3_1 < (a0.size : Int) then (if (bt a0 x3_1) = 0 then (some false) else (if (bt a0 x3_1) > 126 then (some false) else (laws_ascii.l0 kj1 a0 (wrap64 (x3_1 + 1))))) else (none)) else (none)) = some r := by rw [if_pos rfl] at H; exact H
            clear H
            have H := H1
            clear H1
            by_cases c5 : 0 ≤ x3_1
            · rw [if_pos c5] at H
              have c5b0 : decide (0 ≤ x3_1) = true := decide_eq_true c5
              clear c5
              by_cases c6 : x3_1 < (a0.size : Int)
              · rw [if_pos c6] at H
                have c6b0 : decide (x3_1 < (a0.size : Int)) = true := decide_eq_true c6
                clear c6
                by_cases c8 : (bt a0 x3_1) = 0
                · rw [if_pos c8] at H
                  have c8b0 : ((bt a0 x3_1) == 0) = true := beq_iff_eq.mpr c8
                  have c8b1 : ((bt a0 x3_1) != 0) = false := bne_eq_false_iff_eq.mpr c8
                  clear c8
                  obtain rfl := Option.some.inj H
                  have p7 : 0 ≤ (x3_1 : Int) := of_decide_eq_true (by first | (with_reducible assumption) | assumption)
                  have q7 : x3_1 < (a0.size : Int) := of_decide_eq_true (by first | (with_reducible assumption) | assumption)
                  have hx7 := bt_at a0 x3_1
                  replace p7 := eq_true p7
                  replace q7 := eq_true q7
                  go_wp2
                  go_ret
                  exact ⟨by first | rfl | (simp; done) | (simp [*]; done), by repeat (first | exact Drawn0.refl _ | apply Drawn0.step)⟩
                · rw [if_neg c8] at H
                  have c8b0 : ((bt a0 x3_1) == 0) = false := beq_eq_false_iff_ne.mpr c8
                  have c8b1 : ((bt a0 x3_1) != 0) = true := bne_iff_ne.mpr c8
                  by_cases c10 : (bt a0 x3_1) > 126
                  · rw [if_pos c10] at H
                    have c10b0 : decide (126 < (bt a0 x3_1)) = true := decide_eq_true c10
                    clear c10
                    obtain rfl := Option.some.inj H
                    have p7 : 0 ≤ (x3_1 : Int) := of_decide_eq_true (by first | (with_reducible assumption) | assumption)
                    have q7 : x3_1 < (a0.size : Int) := of_decide_eq_true (by first | (with_reducible assumption) | assumption)
                    have hx7 := bt_at a0 x3_1
                    replace p7 := eq_true p7
                    replace q7 := eq_true q7
                    have p9 : 0 ≤ (x3_1 : Int) := of_decide_eq_true (by first | (with_reducible assumption) | assumption)
                    have q9 : x3_1 < (a0.size : Int) := of_decide_eq_true (by first | (with_reducible assumption) | assumption)
                    have hx9 := bt_at a0 x3_1
                    replace p9 := eq_true p9
                    replace q9 := eq_true q9
                    go_wp2
                    go_ret
                    exact ⟨by first | rfl | (simp; done) | (simp [*]; done), by repeat (first | exact Drawn0.refl _ | apply Drawn0.step)⟩
                  · rw [if_neg c10] at H
                    have c10b0 : decide (126 < (bt a0 x3_1)) = false := decide_eq_false c10
                    clear c10
                    have H' := Aside0.mk H
                    clear H
                    have p7 : 0 ≤ (x3_1 : Int) := of_decide_eq_true (by first | (with_reducible assumption) | assumption)
                    have q7 : x3_1 < (a0.size : Int) := of_decide_eq_true (by first | (with_reducible assumption) | assumption)
                    have hx7 := bt_at a0 x3_1
                    replace p7 := eq_true p7
                    replace q7 := eq_true q7
                    have p9 : 0 ≤ (x3_1 : Int) := of_decide_eq_true (by first | (with_reducible assumption) | assumption)
                    have q9 : x3_1 < (a0.size : Int) := of_decide_eq_true (by first | (with_reducible assumption) | assumption)
                    have hx9 := bt_at a0 x3_1
                    replace p9 := eq_true p9
                    replace q9 := eq_true q9
                    go_wp2
                    go_roundg kj1
                    case measure => have := HK1.out; have := HJ1.out; omega
                    case rel => exact ⟨(wrap64 (x3_1 + 1)), (by first | rfl | (simp; done) | (simp [*]; done)), H', ⟨by have := HK1.out; have := HJ1.out; omega⟩, by repeat (first | exact Drawn0.refl _ | apply Drawn0.step)⟩
              · rw [if_neg c6] at H
                exact absurd H (by simp)
            · rw [if_neg c5] at H
              exact absurd H (by simp)
          · replace c4 := Bool.eq_false_iff.mpr c4
            subst c4
            have H1 : (some (decide ((a0.size : Int) ≤ 300))) = some r := by rw [if_neg (show ¬ (false = true) by decide)] at H; exact H
            clear H
            have H := H1
            clear H1
            obtain rfl := Option.some.inj H
            go_wp2
            go_ret
            exact ⟨by first | rfl | (simp; done) | (simp [*]; done), by repeat (first | exact Drawn0.refl _ | apply Drawn0.step)⟩

/-! ### util_zzWord: function 68 -/
def util_zzWord.f (a0 : Int) : Option (Bool) := if a0 = 95 then (some true) else (if a0 ≥ 48 then (if a0 ≤ 57 then (some true) else (if a0 ≥ 97 then (if a0 ≤ 122 then (some true) else (if a0 ≥ 65 then (some (decide (a0 ≤ 90))) else (some false))) else (if a0 ≥ 65 then (some (decide (a0 ≤ 90))) else (some false)))) else (if a0 ≥ 97 then (if a0 ≤ 122 then (some true) else (if a0 ≥ 65 then (some (decide (a0 ≤ 90))) else (some false))) else (if a0 ≥ 65 then (some (decide (a0 ≤ 90))) else (some false))))
set_option maxHeartbeats 8000000 in
set_option maxRecDepth 100000 in
theorem util_zzWord.calls (a0 : Int) (r : Bool) (w : World) (h : util_zzWord.f a0 = some r) :
    Calls Try.prog 68 #[.int .u8 a0] w fun e w' => e = .returned (.bool r) ∧ Drawn0 w w' := by
  have H : (if a0 = 95 then (some true) else (if a0 ≥ 48 then (if a0 ≤ 57 then (some true) else (if a0 ≥ 97 then (if a0 ≤ 122 then (some true) else (if a0 ≥ 65 then (some (decide (a0 ≤ 90))) else (some false))) else (if a0 ≥ 65 then (some (decide (a0 ≤ 90))) else (some false)))) else (if a0 ≥ 97 then (if a0 ≤ 122 then (some true) else (if a0 ≥ 65 then (some (decide (a0 ≤ 90))) else (some false))) else (if a0 ≥ 65 then (some (decide (a0 ≤ 90))) else (some false))))) = some r := h
  clear h
  by_cases c2 : a0 = 95
  · rw [if_pos c2] at H
    have c2b0 : (a0 == 95) = true := beq_iff_eq.mpr c2
    have c2b1 : (a0 != 95) = false := bne_eq_false_iff_eq.mpr c2
    clear c2
    obtain rfl := Option.some.inj H
    go_enter Try.func68, Try.ntmps68
    go_wp2
    go_ret
    exact ⟨by first | rfl | (simp; done) | (simp [*]; done), by repeat (first | exact Drawn0.refl _ | apply Drawn0.step)⟩
  · rw [if_neg c2] at H
    have c2b0 : (a0 == 95) = false := beq_eq_false_iff_ne.mpr c2
    have c2b1 : (a0 != 95) = true := bne_iff_ne.mpr c2
    by_cases c3 : a0 ≥ 48
    · rw [if_pos c3] at H
      have c3b0 : decide (48 ≤ a0) = true := decide_eq_true c3
      clear c3
      by_cases c4 : a0 ≤ 57
      · rw [if_pos c4] at H
        have c4b0 : decide (a0 ≤ 57) = true := decide_eq_true c4
        clear c4
        obtain rfl := Option.some.inj H
        go_enter Try.func68, Try.ntmps68
        go_wp2
        go_ret
        exact ⟨by first | rfl | (simp; done) | (simp [*]; done), by repeat (first | exact Drawn0.refl _ | apply Drawn0.step)⟩
      · rw [if_neg c4] at H
        have c4b0 : decide (a0 ≤ 57) = false := decide_eq_false c4
        clear c4
        by_cases c5 : a0 ≥ 97
        · rw [if_pos c5] at H
          have c5b0 : decide (97 ≤ a0) = true := decide_eq_true c5
          clear c5
          by_cases c6 : a0 ≤ 122
          · rw [if_pos c6] at H
            have c6b0 : decide (a0 ≤ 122) = true := decide_eq_true c6
            clear c6
            obtain rfl := Option.some.inj H
            go_enter Try.func68, Try.ntmps68
            go_wp2
            go_ret
            exact ⟨by first | rfl | (simp; done) | (simp [*]; done), by repeat (first | exact Drawn0.refl _ | apply Drawn0.step)⟩
          · rw [if_neg c6] at H
            have c6b0 : decide (a0 ≤ 122) = false := decide_eq_false c6
            clear c6
            by_cases c7 : a0 ≥ 65
            · rw [if_pos c7] at H
              have c7b0 : decide (65 ≤ a0) = true := decide_eq_true c7
              clear c7
              obtain rfl := Option.some.inj H
              go_enter Try.func68, Try.ntmps68
              go_wp2
              go_ret
              exact ⟨by first | rfl | (simp; done) | (simp [*]; done), by repeat (first | exact Drawn0.refl _ | apply Drawn0.step)⟩
            · rw [if_neg c7] at H
              have c7b0 : decide (65 ≤ a0) = false := decide_eq_false c7
              clear c7
              obtain rfl := Option.some.inj H
              go_enter Try.func68, Try.ntmps68
              go_wp2
              go_ret
              exact ⟨by first | rfl | (simp; done) | (simp [*]; done), by repeat (first | exact Drawn0.refl _ | apply Drawn0.step)⟩
        · rw [if_neg c5] at H
          have c5b0 : decide (97 ≤ a0) = false := decide_eq_false c5
          clear c5
          by_cases c8 : a0 ≥ 65
          · rw [if_pos c8] at H
            have c8b0 : decide (65 ≤ a0) = true := decide_eq_true c8
            clear c8
            obtain rfl := Option.some.inj H
            go_enter Try.func68, Try.ntmps68
            go_wp2
            go_ret
            exact ⟨by first | rfl | (simp; done) | (simp [*]; done), by repeat (first | exact Drawn0.refl _ | apply Drawn0.step)⟩
          · rw [if_neg c8] at H
            have c8b0 : decide (65 ≤ a0) = false := decide_eq_false c8
            clear c8
            obtain rfl := Option.some.inj H
            go_enter Try.func68, Try.ntmps68
            go_wp2
            go_ret
            exact ⟨by first | rfl | (simp; done) | (simp [*]; done), by repeat (first | exact Drawn0.refl _ | apply Drawn0.step)⟩
    · rw [if_neg c3] at H
      have c3b0 : decide (48 ≤ a0) = false := decide_eq_false c3
      clear c3
      by_cases c9 : a0 ≥ 97
      · rw [if_pos c9] at H
        have c9b0 : decide (97 ≤ a0) = true := decide_eq_true c9
        clear c9
        by_cases c10 : a0 ≤ 122
        · rw [if_pos c10] at H
          have c10b0 : decide (a0 ≤ 122) = true := decide_eq_true c10
          clear c10
          obtain rfl := Option.some.inj H
          go_enter Try.func68, Try.ntmps68
          go_wp2
          go_ret
          exact ⟨by first | rfl | (simp; done) | (simp [*]; done), by repeat (first | exact Drawn0.refl _ | apply Drawn0.step)⟩
        · rw [if_neg c10] at H
          have c10b0 : decide (a0 ≤ 122) = false := decide_eq_false c10
          clear c10
          by_cases c11 : a0 ≥ 65
          · rw [if_pos c11] at H
            have c11b0 : decide (65 ≤ a0) = true := decide_eq_true c11
            clear c11
            obtain rfl := Option.some.inj H
            go_enter Try.func68, Try.ntmps68
            go_wp2
            go_ret
            exact ⟨by first | rfl | (simp; done) | (simp [*]; done), by repeat (first | exact Drawn0.refl _ | apply Drawn0.step)⟩
          · rw [if_neg c11] at H
            have c11b0 : decide (65 ≤ a0) = false := decide_eq_false c11
            clear c11
            obtain rfl := Option.some.inj H
            go_enter Try.func68, Try.ntmps68
            go_wp2
            go_ret
            exact ⟨by first | rfl | (simp; done) | (simp [*]; done), by repeat (first | exact Drawn0.refl _ | apply Drawn0.step)⟩
      · rw [if_neg c9] at H
        have c9b0 : decide (97 ≤ a0) = false := decide_eq_false c9
        clear c9
        by_cases c12 : a0 ≥ 65
        · rw [if_pos c12] at H
          have c12b0 : decide (65 ≤ a0) = true := decide_eq_true c12
          clear c12
          obtain rfl := Option.some.inj H
          go_enter Try.func68, Try.ntmps68
          go_wp2
          go_ret
          exact ⟨by first | rfl | (simp; done) | (simp [*]; done), by repeat (first | exact Drawn0.refl _ | apply Drawn0.step)⟩
        · rw [if_neg c12] at H
          have c12b0 : decide (65 ≤ a0) = false := decide_eq_false c12
          clear c12
          obtain rfl := Option.some.inj H
          go_enter Try.func68, Try.ntmps68
          go_wp2
          go_ret
          exact ⟨by first | rfl | (simp; done) | (simp [*]; done), by repeat (first | exact Drawn0.refl _ | apply Drawn0.step)⟩

/-! ### util_zzEvals: function 62 -/
mutual
def util_zzEvals.l0 : Nat → ByteArray → List (S55) → Int → Option ((List (S55)))
  | 0, _, _, _ => none
  | k + 1, x0, x3, x4 => if (wrap64 (x4 + 5)) ≤ (x0.size : Int) then (if 0 ≤ x4 then (if x4 ≤ (wrap64 (x4 + 5)) then (if (x0.extract (x4 : Int).toNat ((wrap64 (x4 + 5)) : Int).toNat).toList = ([101, 118, 97, 108, 40] : List UInt8) then (if x4 > 0 then (if 0 ≤ (wrap64 (x4 - 1)) then (if (wrap64 (x4 - 1)) < (x0.size : Int) then ((util_zzWord.f (bt x0 (wrap64 (x4 - 1)))).bind fun t123 => (util_zzEvals.j1 k x0 x3 x4 t123)) else (none)) else (none)) else (util_zzEvals.j1 k x0 x3 x4 false)) else (util_zzEvals.j1 k x0 x3 x4 true)) else (none)) else (none)) else (some x3)
def util_zzEvals.j1 : Nat → ByteArray → List (S55) → Int → Bool → Option ((List (S55)))
  | 0, _, _, _, _ => none
  | k + 1, x0, x3, x4, x29 => if x29 = true then (util_zzEvals.l0 k x0 x3 (wrap64 (x4 + 1))) else (util_zzEvals.l1 k x0 x3 x4 (wrap64 (x4 + 5)))
def util_zzEvals.l1 : Nat → ByteArray → List (S55) → Int → Int → Option ((List (S55)))
  | 0, _, _, _, _ => none
  | k + 1, x0, x3, x4, x5 => if x5 < (x0.size : Int) then (if 0 ≤ x5 then (if (bt x0 x5) = 41 then (if x3.length < 8796093022208 then (util_zzEvals.l0 k x0 (x3 ++ [(⟨x4, wrap64 (x5 + 1)⟩ : S55)]) (wrap64 (x5 + 1))) else (none)) else (util_zzEvals.l1 k x0 x3 x4 (wrap64 (x5 + 1)))) else (none)) else (util_zzEvals.l0 k x0 x3 (wrap64 (x4 + 1)))
end
def util_zzEvals.f (k : Nat) (a0 : ByteArray) : Option ((List (S55))) := util_zzEvals.l0 k a0 ([] : List (S55)) 0
theorem util_zzEvals.mono_l : ∀ k, (∀ y0 y1 y2, LeO (util_zzEvals.l0 k y0 y1 y2) (util_zzEvals.l0 (k + 1) y0 y1 y2)) ∧ (∀ y0 y1 y2 y3, LeO (util_zzEvals.j1 k y0 y1 y2 y3) (util_zzEvals.j1 (k + 1) y0 y1 y2 y3)) ∧ (∀ y0 y1 y2 y3, LeO (util_zzEvals.l1 k y0 y1 y2 y3) (util_zzEvals.l1 (k + 1) y0 y1 y2 y3))
  | 0 => ⟨fun _ _ _ r h => by simp [util_zzEvals.l0] at h, fun _ _ _ _ r h => by simp [util_zzEvals.j1] at h, fun _ _ _ _ r h => by simp [util_zzEvals.l1] at h⟩
  | k + 1 => by
    obtain ⟨ih0, ih1, ih2⟩ := util_zzEvals.mono_l k
    refine ⟨?_, ?_, ?_⟩
    · intro y0 y1 y2
      unfold util_zzEvals.l0
      repeat' first
      | (with_reducible exact ih0 _ _ _)
      | (with_reducible exact ih1 _ _ _ _)
      | (with_reducible exact ih2 _ _ _ _)
      | (with_reducible exact LeO.refl _)
      | (with_reducible exact LeO.none _)
      | (with_reducible refine LeO.ite ?_ ?_)
      | (with_reducible refine LeO.bind ?_ (fun _ => ?_))
      | exact ih0 _ _ _
      | exact ih1 _ _ _ _
      | exact ih2 _ _ _ _
      | exact LeO.none _
      | refine LeO.ite ?_ ?_
      | refine LeO.bind ?_ (fun _ => ?_)
    · intro y0 y1 y2 y3
      unfold util_zzEvals.j1
      repeat' first
      | (with_reducible exact ih0 _ _ _)
      | (with_reducible exact ih1 _ _ _ _)
      | (with_reducible exact ih2 _ _ _ _)
      | (with_reducible exact LeO.refl _)
      | (with_reducible exact LeO.none _)
      | (with_reducible refine LeO.ite ?_ ?_)
      | (with_reducible refine LeO.bind ?_ (fun _ => ?_))
      | exact ih0 _ _ _
      | exact ih1 _ _ _ _
      | exact ih2 _ _ _ _
      | exact LeO.none _
      | refine LeO.ite ?_ ?_
      | refine LeO.bind ?_ (fun _ => ?_)
    · intro y0 y1 y2 y3
      unfold util_zzEvals.l1
      repeat' first
      | (with_reducible exact ih0 _ _ _)
      | (with_reducible exact ih1 _ _ _ _)
      | (with_reducible exact ih2 _ _ _ _)
      | (with_reducible exact LeO.refl _)
      | (with_reducible exact LeO.none _)
      | (with_reducible refine LeO.ite ?_ ?_)
      | (with_reducible refine LeO.bind ?_ (fun _ => ?_))
      | exact ih0 _ _ _
      | exact ih1 _ _ _ _
      | exact ih2 _ _ _ _
      | exact LeO.none _
      | refine LeO.ite ?_ ?_
      | refine LeO.bind ?_ (fun _ => ?_)
theorem util_zzEvals.mono : ∀ a0 k, LeO (util_zzEvals.f k a0) (util_zzEvals.f (k + 1) a0) := by
  intro a0 k
  obtain ⟨ih0, ih1, ih2⟩ := util_zzEvals.mono_l k
  unfold util_zzEvals.f
  repeat' first
      | (with_reducible exact ih0 _ _ _)
      | (with_reducible exact ih1 _ _ _ _)
      | (with_reducible exact ih2 _ _ _ _)
      | (with_reducible exact LeO.refl _)
      | (with_reducible exact LeO.none _)
      | (with_reducible refine LeO.ite ?_ ?_)
      | (with_reducible refine LeO.bind ?_ (fun _ => ?_))
      | exact ih0 _ _ _
      | exact ih1 _ _ _ _
      | exact ih2 _ _ _ _
      | exact LeO.none _
      | refine LeO.ite ?_ ?_
      | refine LeO.bind ?_ (fun _ => ?_)
set_option maxHeartbeats 8000000 in
set_option maxRecDepth 100000 in
theorem util_zzEvals.calls (k : Nat) (a0 : ByteArray) (r : List (S55)) (w : World) (h : util_zzEvals.f k a0 = some r) :
    Calls Try.prog 62 #[.string a0] w fun e w' => ∃ v0_ : Value, e = .returned (v0_) ∧ Kd.R k55 55 w' w.heap.size (fun _ => True) v0_ r ∧ Below w.heap.size w w' := by
  have hu55 := Try.underlying55
  have HB := Aside0.mk (Below.refl w.heap.size w)
  have H : (util_zzEvals.l0 k a0 ([] : List (S55)) 0) = some r := h
  clear h
  have H' := Aside0.mk H
  clear H
  go_enter Try.func62, Try.ntmps62
  go_wp2
  go_loopg [3, 4] k (fun kq v3 v4 w' => ∃ (x3_1 : List (S55)) (x4_1 : Int), v4 = .int .i64 x4_1 ∧ Aside0 (util_zzEvals.l0 kq a0 x3_1 x4_1 = some r) ∧ Aside0 (kq ≤ k) ∧ Aside0 (Kd.R k55 55 w' w.heap.size (fun _ => True) v3 x3_1) ∧ Aside0 (Below w.heap.size w w'))
  case atStart => exact ⟨(([] : List (S55))), (0), (by first | rfl | (simp; done) | (simp [*]; done)), H', ⟨Nat.le_refl _⟩, ⟨by first | exact Kd.R_nil _ _ _ _ _ | exact Kd.N_nil _ _ _ _ _ | exact Kd.V_nil _ _ _ _ _ | exact Kd.Q_nil _ _ _ _ _ | exact Kd.S_nil _ _ _ _ _⟩, ⟨by repeat (first | (with_reducible first | exact HB.out | apply below_alloc | apply pw_below_drewN | apply below_drew1) | exact HB.out)⟩⟩
  case round =>
    clear H'
    obtain ⟨x3_1, x4_1, rfl, HA, HK1, HO_3, HB⟩ := hrel
    cases gk with
    | zero => exact absurd HA.out (by simp [util_zzEvals.l0])
    | succ k1 =>
      have H := HA.out
      clear HA
      simp only [util_zzEvals.l0] at H
      by_cases c2 : (wrap64 (x4_1 + 5)) ≤ (a0.size : Int)
      · rw [if_pos c2] at H
        have c2b0 : decide ((wrap64 (x4_1 + 5)) ≤ (a0.size : Int)) = true := decide_eq_true c2
        clear c2
        have HC3 := Aside0.mk H
        clear H
        go_upto_region 5 with (fail)
        go_cut [29] (fun v29 wc => ∃ (kq : Nat) (x29_2 : Bool), v29 = .bool x29_2 ∧ Aside0 (util_zzEvals.j1 kq a0 x3_1 x4_1 x29_2 = some r) ∧ Aside0 (kq ≤ k1) ∧ Aside0 (Kd.R k55 55 wc w.heap.size (fun _ => True) u3 x3_1) ∧ Aside0 (Below w.heap.size w wc))
        case first =>
          have H := HC3.out
          clear HC3
          by_cases c4 : 0 ≤ x4_1
          · rw [if_pos c4] at H
            have c4b0 := eq_true c4
            have c4b1 : decide (0 ≤ x4_1) = true := decide_eq_true c4
            clear c4
            by_cases c5 : x4_1 ≤ (wrap64 (x4_1 + 5))
            · rw [if_pos c5] at H
              have c5b0 := eq_true c5
              have c5b1 : decide (x4_1 ≤ (wrap64 (x4_1 + 5))) = true := decide_eq_true c5
              have c6b0 := eq_true (of_decide_eq_true (by first | (with_reducible assumption) | assumption) : (wrap64 (x4_1 + 5)) ≤ (a0.size : Int))
              by_cases c7 : (a0.extract (x4_1 : Int).toNat ((wrap64 (x4_1 + 5)) : Int).toNat).toList = ([101, 118, 97, 108, 40] : List UInt8)
              · rw [if_pos c7] at H
                have c7b0 : ((a0.extract (x4_1 : Int).toNat ((wrap64 (x4_1 + 5)) : Int).toNat).toList == ([101, 118, 97, 108, 40] : List UInt8)) = true := beq_iff_eq.mpr c7
                have c7b1 : ((a0.extract (x4_1 : Int).toNat ((wrap64 (x4_1 + 5)) : Int).toNat).toList != ([101, 118, 97, 108, 40] : List UInt8)) = false := bne_eq_false_iff_eq.mpr c7
                clear c7
                (first | rw [c7b0] | (simp only [i64_w, i32_w]; rw [c7b0]) | skip)
                by_cases c8 : x4_1 > 0
                · rw [if_pos c8] at H
                  have c8b0 : decide (0 < x4_1) = true := decide_eq_true c8
                  clear c8
                  obtain ⟨ji9, hji9⟩ : ∃ j_ : Int, (wrap64 (x4_1 - 1)) = j_ := ⟨_, rfl⟩
                  replace H : (if 0 ≤ (ji9) then (if (ji9) < (a0.size : Int) then ((util_zzWord.f (bt a0 (ji9))).bind fun t123 => (util_zzEvals.j1 k1 a0 x3_1 x4_1 t123)) else (none)) else (none)) = some r := by first | (rw [hji9] at H; exact H) | (simp only [hji9] at H ⊢; exact H)
                  have hji9w : (IntKind.i64.wrap (x4_1 - 1)) = ji9 := (i64_w _).trans hji9
                  by_cases c10 : 0 ≤ (ji9)
                  · rw [if_pos c10] at H
                    have c10b0 : decide (0 ≤ (ji9)) = true := decide_eq_true c10
                    clear c10
                    by_cases c11 : (ji9) < (a0.size : Int)
                    · rw [if_pos c11] at H
                      have c11b0 : decide ((ji9) < (a0.size : Int)) = true := decide_eq_true c11
                      clear c11
                      replace H := Option.bind_eq_some_iff.mp H
                      obtain ⟨t123, A130, H⟩ := H
                      replace H : (util_zzEvals.j1 k1 a0 x3_1 x4_1 t123) = some r := H
                      have A13 := Aside0.mk A130
                      clear A130
                      have H' := Aside0.mk H
                      clear H
                      have p12 : 0 ≤ ((ji9) : Int) := of_decide_eq_true (by first | (with_reducible assumption) | assumption)
                      have q12 : (ji9) < (a0.size : Int) := of_decide_eq_true (by first | (with_reducible assumption) | assumption)
                      have hx12 := bt_at a0 (ji9)
                      replace p12 := eq_true p12
                      replace q12 := eq_true q12
                      go_wp2_with (first | (go_at_call 68; (with_reducible refine (util_zzWord.calls (bt a0 (ji9)) t123 _ A13.out).mono ?_); rintro e w' ⟨rfl, ⟨nd, rfl⟩⟩))
                      go_meet
                      case rel => exact ⟨_, (t123), (by first | rfl | (simp; done) | (simp [*]; done)), H', ⟨by have := HK1.out; first | omega | exact Nat.le_refl _⟩, ⟨by (with_reducible repeat (first | apply Kd.R_alloc | apply Kd.R_drewN | apply Kd.R_drew)); exact HO_3.out⟩, ⟨by repeat (first | (with_reducible first | exact HB.out | apply below_alloc | apply pw_below_drewN | apply below_drew1) | exact HB.out)⟩⟩
                    · rw [if_neg c11] at H
                      exact absurd H (by simp)
                  · rw [if_neg c10] at H
                    exact absurd H (by simp)
                · rw [if_neg c8] at H
                  have c8b0 : decide (0 < x4_1) = false := decide_eq_false c8
                  clear c8
                  have H' := Aside0.mk H
                  clear H
                  go_wp2
                  go_meet
                  case rel => exact ⟨_, (false), (by first | rfl | (simp; done) | (simp [*]; done)), H', ⟨by have := HK1.out; first | omega | exact Nat.le_refl _⟩, ⟨by (with_reducible repeat (first | apply Kd.R_alloc | apply Kd.R_drewN | apply Kd.R_drew)); exact HO_3.out⟩, ⟨by repeat (first | (with_reducible first | exact HB.out | apply below_alloc | apply pw_below_drewN | apply below_drew1) | exact HB.out)⟩⟩
              · rw [if_neg c7] at H
                have c7b0 : ((a0.extract (x4_1 : Int).toNat ((wrap64 (x4_1 + 5)) : Int).toNat).toList == ([101, 118, 97, 108, 40] : List UInt8)) = false := beq_eq_false_iff_ne.mpr c7
                have c7b1 : ((a0.extract (x4_1 : Int).toNat ((wrap64 (x4_1 + 5)) : Int).toNat).toList != ([101, 118, 97, 108, 40] : List UInt8)) = true := bne_iff_ne.mpr c7
                (first | rw [c7b0] | (simp only [i64_w, i32_w]; rw [c7b0]) | skip)
                have H' := Aside0.mk H
                clear H
                go_wp2
                go_meet
                case rel => exact ⟨_, (true), (by first | rfl | (simp; done) | (simp [*]; done)), H', ⟨by have := HK1.out; first | omega | exact Nat.le_refl _⟩, ⟨by (with_reducible repeat (first | apply Kd.R_alloc | apply Kd.R_drewN | apply Kd.R_drew)); exact HO_3.out⟩, ⟨by repeat (first | (with_reducible first | exact HB.out | apply below_alloc | apply pw_below_drewN | apply below_drew1) | exact HB.out)⟩⟩
            · rw [if_neg c5] at H
              exact absurd H (by simp)
          · rw [if_neg c4] at H
            exact absurd H (by simp)
        case rest =>
          clear HC3
          try clear c1
          try clear p1
          try clear q1
          try clear hx1
          try clear c2
          try clear c2b0
          try clear p2
          try clear c4
          try clear c4b0
          try clear c4b1
          try clear c5
          try clear c5b0
          try clear c5b1
          try clear c6
          try clear c6b0
          try clear p6
          try clear c7
          try clear c7b0
          try clear c7b1
          try clear c8
          try clear c8b0
          try clear c10
          try clear c10b0
          try clear c11
          try clear c11b0
          try clear p12
          try clear q12
          try clear hx12
          try clear p12
          try clear q12
          obtain ⟨kq, x29_2, rfl, HA, HJ2, HO_3, HB⟩ := hcut
          cases kq with
          | zero => exact absurd HA.out (by simp [util_zzEvals.j1])
          | succ kj2 =>
            have H := HA.out
            clear HA
            simp only [util_zzEvals.j1] at H
            by_cases c14 : x29_2 = true
            · subst c14
              have H1 : (util_zzEvals.l0 kj2 a0 x3_1 (wrap64 (x4_1 + 1))) = some r := by rw [if_pos rfl] at H; exact H
              clear H
              have H := H1
              clear H1
              have H' := Aside0.mk H
              clear H
              go_wp2
              go_roundg kj2
              case measure => have := HK1.out; have := HJ2.out; omega
              case rel => exact ⟨(x3_1), (wrap64 (x4_1 + 1)), (by first | rfl | (simp; done) | (simp [*]; done)), H', ⟨by have := HK1.out; have := HJ2.out; omega⟩, ⟨by (with_reducible repeat (first | apply Kd.R_alloc | apply Kd.R_drewN | apply Kd.R_drew)); exact HO_3.out⟩, ⟨by repeat (first | (with_reducible first | exact HB.out | apply below_alloc | apply pw_below_drewN | apply below_drew1) | exact HB.out)⟩⟩
            · replace c14 := Bool.eq_false_iff.mpr c14
              subst c14
              have H1 : (util_zzEvals.l1 kj2 a0 x3_1 x4_1 (wrap64 (x4_1 + 5))) = some r := by rw [if_neg (show ¬ (false = true) by decide)] at H; exact H
              clear H
              have H := H1
              clear H1
              have H' := Aside0.mk H
              clear H
              go_wp2
              go_loopg [3, 4, 5] kj2 (fun kq v3 v4 v5 w' => ∃ (x3_3 : List (S55)) (x4_3 : Int) (x5_3 : Int), v4 = .int .i64 x4_3 ∧ v5 = .int .i64 x5_3 ∧ Aside0 (util_zzEvals.l1 kq a0 x3_3 x4_3 x5_3 = some r) ∧ Aside0 (kq ≤ kj2) ∧ Aside0 (Kd.R k55 55 w' w.heap.size (fun _ => True) v3 x3_3) ∧ Aside0 (Below w.heap.size w w'))
              case atStart => exact ⟨(x3_1), (x4_1), (wrap64 (x4_1 + 5)), (by first | rfl | (simp; done) | (simp [*]; done)), (by first | rfl | (simp; done) | (simp [*]; done)), H', ⟨Nat.le_refl _⟩, ⟨by (with_reducible repeat (first | apply Kd.R_alloc | apply Kd.R_drewN | apply Kd.R_drew)); exact HO_3.out⟩, ⟨by repeat (first | (with_reducible first | exact HB.out | apply below_alloc | apply pw_below_drewN | apply below_drew1) | exact HB.out)⟩⟩
              case round =>
                clear H'
                try clear c1
                try clear p1
                try clear q1
                try clear hx1
                try clear c2
                try clear c2b0
                try clear p2
                try clear c4
                try clear c4b0
                try clear c4b1
                try clear c5
                try clear c5b0
                try clear c5b1
                try clear c6
                try clear c6b0
                try clear p6
                try clear c7
                try clear c7b0
                try clear c7b1
                try clear c8
                try clear c8b0
                try clear c10
                try clear c10b0
                try clear c11
                try clear c11b0
                try clear p12
                try clear q12
                try clear hx12
                try clear c14
                try clear p1
                try clear p12
                try clear p2
                try clear p6
                try clear q1
                try clear q12
                obtain ⟨x3_3, x4_3, x5_3, rfl, rfl, HA, HK3, HO_3, HB⟩ := hrel
                cases gk with
                | zero => exact absurd HA.out (by simp [util_zzEvals.l1])
                | succ k3 =>
                  have H := HA.out
                  clear HA
                  simp only [util_zzEvals.l1] at H
                  by_cases c15 : x5_3 < (a0.size : Int)
                  · rw [if_pos c15] at H
                    have c15b0 : decide (x5_3 < (a0.size : Int)) = true := decide_eq_true c15
                    clear c15
                    by_cases c16 : 0 ≤ x5_3
                    · rw [if_pos c16] at H
                      have c16b0 : decide (0 ≤ x5_3) = true := decide_eq_true c16
                      clear c16
                      by_cases c18 : (bt a0 x5_3) = 41
                      · rw [if_pos c18] at H
                        have c18b0 : ((bt a0 x5_3) == 41) = true := beq_iff_eq.mpr c18
                        have c18b1 : ((bt a0 x5_3) != 41) = false := bne_eq_false_iff_eq.mpr c18
                        clear c18
                        by_cases c19 : x3_3.length < 8796093022208
                        · rw [if_pos c19] at H
                          have LMc19 := Aside0.mk c19
                          clear c19
                          obtain ⟨y124, hy124⟩ : ∃ y_ : List (S55), y_ = (x3_3 ++ [(⟨x4_3, wrap64 (x5_3 + 1)⟩ : S55)]) := ⟨_, rfl⟩
                          replace H : (util_zzEvals.l0 k3 a0 y124 (wrap64 (x5_3 + 1))) = some r := by first | (rw [hy124]; with_reducible exact H) | (have H2_ := (Option.bind_some _ _).symm.trans H; rw [hy124]; with_reducible exact H2_) | (have H2_ := (Option.bind_some _ _).symm.trans H; with_reducible exact H2_) | with_reducible exact H | (rw [hy124]; exact H) | exact H
                          have Ny124 := Aside0.mk hy124
                          clear hy124
                          have H' := Aside0.mk H
                          clear H
                          have p17 : 0 ≤ (x5_3 : Int) := of_decide_eq_true (by first | (with_reducible assumption) | assumption)
                          have q17 : x5_3 < (a0.size : Int) := of_decide_eq_true (by first | (with_reducible assumption) | assumption)
                          have hx17 := bt_at a0 x5_3
                          replace p17 := eq_true p17
                          replace q17 := eq_true q17
                          go_wp2_with (first | ((with_reducible refine gate_builtin (b := .append) (xs := #[.tmp 42, .tmp 47]) rfl ?_); at_builtin; refine Kd.R_append k55 (w0 := w) w.heap.size rfl (.tmp 42) (.tmp 47) 53 55 (.agg #[(.int .i64 0), (.int .i64 0)]) 16 rfl Try.underlying53 info55 rfl (by decide) (by omega) u3 x3_3 (⟨x4_3, wrap64 (x5_3 + 1)⟩ : S55) [.int .i64 x4_3, .int .i64 (wrap64 (x5_3 + 1))] (fun _ => True) (fun _ => False) rfl rfl ?aP (fun _ hk => hk.elim) ?aF ?aO ?aB ?aS ?aL ?_; (case aP => exact k55_mkM _ _ _ (⟨x4_3, wrap64 (x5_3 + 1)⟩ : S55)); (case aB => exact (by repeat (first | (with_reducible first | exact HB.out | apply below_alloc | apply pw_below_drewN | apply below_drew1) | exact HB.out))); (case aF => exact (fun _ _ => trivial)); (case aO => exact (by (with_reducible repeat (first | apply Kd.R_alloc | apply Kd.R_drewN | apply Kd.R_drew)); exact HO_3.out)); (case aS => exact (below_size (by repeat (first | (with_reducible first | exact HB.out | apply below_alloc | apply pw_below_drewN | apply below_drew1) | exact HB.out)))); (case aL => have := LMc19.out; omega); intro v125 w20 ho hb hg hat; rw [← Ny124.out] at ho; have n0_ := Aside0.mk (hb); have n1_ := Aside0.mk (ho); clear HB; clear HO_3; have HB := n0_; have HO126 := n1_; clear n0_ n1_; clear ho hb hg hat))
                          go_roundg k3
                          case measure => have := HK1.out; have := HJ2.out; have := HK3.out; omega
                          case rel => exact ⟨(y124), (wrap64 (x5_3 + 1)), (by first | rfl | (simp; done) | (simp [*]; done)), H', ⟨by have := HK1.out; have := HJ2.out; have := HK3.out; omega⟩, ⟨by (with_reducible repeat (first | apply Kd.R_alloc | apply Kd.R_drewN | apply Kd.R_drew)); exact HO126.out⟩, ⟨by repeat (first | (with_reducible first | exact HB.out | apply below_alloc | apply pw_below_drewN | apply below_drew1) | exact HB.out)⟩⟩
                        · rw [if_neg c19] at H
                          exact absurd H (by simp)
                      · rw [if_neg c18] at H
                        have c18b0 : ((bt a0 x5_3) == 41) = false := beq_eq_false_iff_ne.mpr c18
                        have c18b1 : ((bt a0 x5_3) != 41) = true := bne_iff_ne.mpr c18
                        have H' := Aside0.mk H
                        clear H
                        have p17 : 0 ≤ (x5_3 : Int) := of_decide_eq_true (by first | (with_reducible assumption) | assumption)
                        have q17 : x5_3 < (a0.size : Int) := of_decide_eq_true (by first | (with_reducible assumption) | assumption)
                        have hx17 := bt_at a0 x5_3
                        replace p17 := eq_true p17
                        replace q17 := eq_true q17
                        go_wp2
                        go_roundg k3
                        case measure => have := HK1.out; have := HJ2.out; have := HK3.out; omega
                        case rel => exact ⟨(x3_3), (x4_3), (wrap64 (x5_3 + 1)), (by first | rfl | (simp; done) | (simp [*]; done)), (by first | rfl | (simp; done) | (simp [*]; done)), H', ⟨by have := HK1.out; have := HJ2.out; have := HK3.out; omega⟩, ⟨by (with_reducible repeat (first | apply Kd.R_alloc | apply Kd.R_drewN | apply Kd.R_drew)); exact HO_3.out⟩, ⟨by repeat (first | (with_reducible first | exact HB.out | apply below_alloc | apply pw_below_drewN | apply below_drew1) | exact HB.out)⟩⟩
                    · rw [if_neg c16] at H
                      exact absurd H (by simp)
                  · rw [if_neg c15] at H
                    have c15b0 : decide (x5_3 < (a0.size : Int)) = false := decide_eq_false c15
                    clear c15
                    have H' := Aside0.mk H
                    clear H
                    go_wp2
                    go_roundg k3
                    case measure => have := HK1.out; have := HJ2.out; have := HK3.out; omega
                    case rel => exact ⟨(x3_3), (wrap64 (x4_3 + 1)), (by first | rfl | (simp; done) | (simp [*]; done)), H', ⟨by have := HK1.out; have := HJ2.out; have := HK3.out; omega⟩, ⟨by (with_reducible repeat (first | apply Kd.R_alloc | apply Kd.R_drewN | apply Kd.R_drew)); exact HO_3.out⟩, ⟨by repeat (first | (with_reducible first | exact HB.out | apply below_alloc | apply pw_below_drewN | apply below_drew1) | exact HB.out)⟩⟩
      · rw [if_neg c2] at H
        have c2b0 : decide ((wrap64 (x4_1 + 5)) ≤ (a0.size : Int)) = false := decide_eq_false c2
        clear c2
        obtain rfl := Option.some.inj H
        go_wp2
        go_ret
        exact ⟨_, by first | rfl | (simp [errW_none, errW_some] <;> rfl) | (simp [*, errW_none, errW_some] <;> rfl), by (with_reducible repeat (first | apply Kd.R_alloc | apply Kd.R_drewN | apply Kd.R_drew)); exact HO_3.out, by repeat (first | (with_reducible first | exact HB.out | apply below_alloc | apply pw_below_drewN | apply below_drew1) | exact HB.out)⟩

end Go.Proofs.Ytnbcohabllkneaa.PFnEvaled
