/- The machine side of laws.FnModelDefs: each function of this text answers what its Lean function answers (written for this claim by a program of this session over the kit's print; no condition beyond what each theorem says). -/
import Derived.Test.YtjglpjlbnmpdfaaGreatDoorOFnModelDefsx0
import Derived.Test.YtjglpjlbnmpdfaaGreatDoorOFnModelDefsx9
namespace Go.Proofs.YtjglpjlbnmpdfaaGreatDoor.PFnModelDefs
open Go.RowKit Go.Proofs.YtjglpjlbnmpdfaaGreatDoorW.PrintWords Go.Proofs.YtjglpjlbnmpdfaaGreatDoorW.PrintLast Go.Proofs.YtjglpjlbnmpdfaaGreatDoorW.PrintMore
attribute [local go_sem] max2_int min2_int max_two min_two max_three min_three max_four min_four   -- for this text's walks alone
set_option linter.unusedVariables false
set_option linter.unusedSimpArgs false

/-! ### laws_awakeModel: function 10 -/
def laws_awakeModel.f (k : Nat)  : Option (Bool) := (impl_ModelDefs.f k (⟨#[91, 114, 101, 113, 117, 101, 115, 116, 95, 100, 101, 102, 105, 110, 105, 116, 105, 111, 110, 93, 10, 114, 32, 61, 32, 115, 117, 98, 10, 91, 112, 111, 108, 105, 99, 121, 95, 100, 101, 102, 105, 110, 105, 116, 105, 111, 110, 93, 10, 112, 32, 61, 32, 115, 117, 98, 10, 91, 112, 111, 108, 105, 99, 121, 95, 101, 102, 102, 101, 99, 116, 93, 10, 101, 32, 61, 32, 115, 111, 109, 101, 40, 119, 104, 101, 114, 101, 32, 40, 112, 46, 101, 102, 116, 32, 61, 61, 32, 97, 108, 108, 111, 119, 41, 41, 10, 91, 109, 97, 116, 99, 104, 101, 114, 115, 93, 10, 109, 32, 61, 32, 114, 46, 115, 117, 98, 32, 61, 61, 32, 112, 46, 115, 117, 98, 10]⟩ : ByteArray)).bind fun bt153 => (if bt153.2 = 0 then (some ((bt153.1.length : Int) == 4)) else (some false))
theorem laws_awakeModel.mono : ∀ k, LeO (laws_awakeModel.f k ) (laws_awakeModel.f (k + 1) ) := by
 intro  k
 unfold laws_awakeModel.f
 repeat' first
   | (with_reducible exact impl_ModelDefs.mono _ _)
   | (with_reducible exact LeO.refl _)
   | (with_reducible exact LeO.none _)
   | (with_reducible refine LeO.ite ?_ ?_)
   | (with_reducible refine LeO.bind ?_ (fun _ => ?_))
   | exact impl_ModelDefs.mono _ _
   | exact LeO.none _
   | refine LeO.ite ?_ ?_
   | refine LeO.bind ?_ (fun _ => ?_)
set_option maxHeartbeats 8000000 in
set_option maxRecDepth 100000 in
theorem laws_awakeModel.calls (k : Nat)  (r : Bool) (w : World) (hprem : Prem w) (h : laws_awakeModel.f k  = some r) :
  Calls Tryz.prog 10 #[] w fun e w' => e = .returned (.bool r) ∧ Below w.heap.size w w' := by
 have HPM := Aside0.mk hprem
 clear hprem
 have HB := Aside0.mk (Below.refl w.heap.size w)
 have H : ((impl_ModelDefs.f k (⟨#[91, 114, 101, 113, 117, 101, 115, 116, 95, 100, 101, 102, 105, 110, 105, 116, 105, 111, 110, 93, 10, 114, 32, 61, 32, 115, 117, 98, 10, 91, 112, 111, 108, 105, 99, 121, 95, 100, 101, 102, 105, 110, 105, 116, 105, 111, 110, 93, 10, 112, 32, 61, 32, 115, 117, 98, 10, 91, 112, 111, 108, 105, 99, 121, 95, 101, 102, 102, 101, 99, 116, 93, 10, 101, 32, 61, 32, 115, 111, 109, 101, 40, 119, 104, 101, 114, 101, 32, 40, 112, 46, 101, 102, 116, 32, 61, 61, 32, 97, 108, 108, 111, 119, 41, 41, 10, 91, 109, 97, 116, 99, 104, 101, 114, 115, 93, 10, 109, 32, 61, 32, 114, 46, 115, 117, 98, 32, 61, 61, 32, 112, 46, 115, 117, 98, 10]⟩ : ByteArray)).bind fun bt153 => (if bt153.2 = 0 then (some ((bt153.1.length : Int) == 4)) else (some false))) = some r := h
 clear h
 replace H := Option.bind_eq_some_iff.mp H
 obtain ⟨⟨t153, t154⟩, A10, H⟩ := H
 replace H : (if t154 = 0 then (some ((t153.length : Int) == 4)) else (some false)) = some r := H
 have A1 := Aside0.mk A10
 clear A10
 by_cases c2 : t154 = 0
 ·rw [if_pos c2] at H
  have c2b0 : (t154 == 0) = true := beq_iff_eq.mpr c2
  have c2b1 : (t154 != 0) = false := bne_eq_false_iff_eq.mpr c2
  clear c2
  obtain rfl := Option.some.inj H
  go_enter Tryz.func10, Tryz.ntmps10
  go_wp2_with (first | ((with_reducible refine gate_callee (f := 11) rfl ?_); refine goesL_ (some 4) rfl rfl Tryz.func11 (by kernel_rfl) rfl #[.string (⟨#[91, 114, 101, 113, 117, 101, 115, 116, 95, 100, 101, 102, 105, 110, 105, 116, 105, 111, 110, 93, 10, 114, 32, 61, 32, 115, 117, 98, 10, 91, 112, 111, 108, 105, 99, 121, 95, 100, 101, 102, 105, 110, 105, 116, 105, 111, 110, 93, 10, 112, 32, 61, 32, 115, 117, 98, 10, 91, 112, 111, 108, 105, 99, 121, 95, 101, 102, 102, 101, 99, 116, 93, 10, 101, 32, 61, 32, 115, 111, 109, 101, 40, 119, 104, 101, 114, 101, 32, 40, 112, 46, 101, 102, 116, 32, 61, 61, 32, 97, 108, 108, 111, 119, 41, 41, 10, 91, 109, 97, 116, 99, 104, 101, 114, 115, 93, 10, 109, 32, 61, 32, 114, 46, 115, 117, 98, 32, 61, 61, 32, 112, 46, 115, 117, 98, 10]⟩ : ByteArray)] rfl (by (try simp only [List.map_toArray, List.map_cons, List.map_nil]); first | done | rfl | (simp only [List.length_drop, List.length_take]; rfl)) ?_; (with_reducible refine (impl_ModelDefs.calls k (⟨#[91, 114, 101, 113, 117, 101, 115, 116, 95, 100, 101, 102, 105, 110, 105, 116, 105, 111, 110, 93, 10, 114, 32, 61, 32, 115, 117, 98, 10, 91, 112, 111, 108, 105, 99, 121, 95, 100, 101, 102, 105, 110, 105, 116, 105, 111, 110, 93, 10, 112, 32, 61, 32, 115, 117, 98, 10, 91, 112, 111, 108, 105, 99, 121, 95, 101, 102, 102, 101, 99, 116, 93, 10, 101, 32, 61, 32, 115, 111, 109, 101, 40, 119, 104, 101, 114, 101, 32, 40, 112, 46, 101, 102, 116, 32, 61, 61, 32, 97, 108, 108, 111, 119, 41, 41, 10, 91, 109, 97, 116, 99, 104, 101, 114, 115, 93, 10, 109, 32, 61, 32, 114, 46, 115, 117, 98, 32, 61, 61, 32, 112, 46, 115, 117, 98, 10]⟩ : ByteArray) t153 t154 _ (by repeat (first | exact HPM.out | exact prem_below HPM.out HB.out | (with_reducible refine prem_below ?_ (Drawn0.below ⟨_, rfl⟩)))) A1.out).mono ?_); rintro e w3 ⟨v155, rfl, ⟨lp_, hp_, ho0⟩, hb⟩; have HPERM := Aside0.mk hp_; clear hp_; refine ⟨_, rfl, ?_⟩; have n0_ := Aside0.mk (Kd.R_lower ho0 (below_size (by repeat (first | (with_reducible first | exact HB.out | apply below_alloc | apply pw_below_drewN | apply below_drew1) | exact HB.out)))); have n1_ := Aside0.mk (below_step (by repeat (first | (with_reducible first | exact HB.out | apply below_alloc | apply pw_below_drewN | apply below_drew1) | exact HB.out)) hb); clear HB; have HO156 := n0_; have HB := n1_; clear n0_ n1_; (try clear hb); (try clear hb2); (try clear hk); (try clear hi); (try clear ho0); obtain ⟨Ao4, co4, eo4⟩ := Kd.R_slice HO156.out; subst eo4))
  go_ret
  exact ⟨by first | rfl | (rw [← HPERM.out.length_eq]; rfl) | (simp [← HPERM.out.length_eq]; done) | (simp [errW_none, errW_some] <;> rfl) | (simp [*, errW_none, errW_some] <;> rfl), by repeat (first | (with_reducible first | exact HB.out | apply below_alloc | apply pw_below_drewN | apply below_drew1) | exact HB.out)⟩
 ·rw [if_neg c2] at H
  have c2b0 : (t154 == 0) = false := beq_eq_false_iff_ne.mpr c2
  have c2b1 : (t154 != 0) = true := bne_iff_ne.mpr c2
  obtain rfl := Option.some.inj H
  go_enter Tryz.func10, Tryz.ntmps10
  go_wp2_with (first | ((with_reducible refine gate_callee (f := 11) rfl ?_); refine goesL_ (some 4) rfl rfl Tryz.func11 (by kernel_rfl) rfl #[.string (⟨#[91, 114, 101, 113, 117, 101, 115, 116, 95, 100, 101, 102, 105, 110, 105, 116, 105, 111, 110, 93, 10, 114, 32, 61, 32, 115, 117, 98, 10, 91, 112, 111, 108, 105, 99, 121, 95, 100, 101, 102, 105, 110, 105, 116, 105, 111, 110, 93, 10, 112, 32, 61, 32, 115, 117, 98, 10, 91, 112, 111, 108, 105, 99, 121, 95, 101, 102, 102, 101, 99, 116, 93, 10, 101, 32, 61, 32, 115, 111, 109, 101, 40, 119, 104, 101, 114, 101, 32, 40, 112, 46, 101, 102, 116, 32, 61, 61, 32, 97, 108, 108, 111, 119, 41, 41, 10, 91, 109, 97, 116, 99, 104, 101, 114, 115, 93, 10, 109, 32, 61, 32, 114, 46, 115, 117, 98, 32, 61, 61, 32, 112, 46, 115, 117, 98, 10]⟩ : ByteArray)] rfl (by (try simp only [List.map_toArray, List.map_cons, List.map_nil]); first | done | rfl | (simp only [List.length_drop, List.length_take]; rfl)) ?_; (with_reducible refine (impl_ModelDefs.calls k (⟨#[91, 114, 101, 113, 117, 101, 115, 116, 95, 100, 101, 102, 105, 110, 105, 116, 105, 111, 110, 93, 10, 114, 32, 61, 32, 115, 117, 98, 10, 91, 112, 111, 108, 105, 99, 121, 95, 100, 101, 102, 105, 110, 105, 116, 105, 111, 110, 93, 10, 112, 32, 61, 32, 115, 117, 98, 10, 91, 112, 111, 108, 105, 99, 121, 95, 101, 102, 102, 101, 99, 116, 93, 10, 101, 32, 61, 32, 115, 111, 109, 101, 40, 119, 104, 101, 114, 101, 32, 40, 112, 46, 101, 102, 116, 32, 61, 61, 32, 97, 108, 108, 111, 119, 41, 41, 10, 91, 109, 97, 116, 99, 104, 101, 114, 115, 93, 10, 109, 32, 61, 32, 114, 46, 115, 117, 98, 32, 61, 61, 32, 112, 46, 115, 117, 98, 10]⟩ : ByteArray) t153 t154 _ (by repeat (first | exact HPM.out | exact prem_below HPM.out HB.out | (with_reducible refine prem_below ?_ (Drawn0.below ⟨_, rfl⟩)))) A1.out).mono ?_); rintro e w5 ⟨v155, rfl, ⟨lp_, hp_, ho0⟩, hb⟩; have HPERM := Aside0.mk hp_; clear hp_; refine ⟨_, rfl, ?_⟩; have n0_ := Aside0.mk (Kd.R_lower ho0 (below_size (by repeat (first | (with_reducible first | exact HB.out | apply below_alloc | apply pw_below_drewN | apply below_drew1) | exact HB.out)))); have n1_ := Aside0.mk (below_step (by repeat (first | (with_reducible first | exact HB.out | apply below_alloc | apply pw_below_drewN | apply below_drew1) | exact HB.out)) hb); clear HB; have HO156 := n0_; have HB := n1_; clear n0_ n1_; (try clear hb); (try clear hb2); (try clear hk); (try clear hi); (try clear ho0)))
  go_ret
  exact ⟨by first | rfl | (rw [← HPERM.out.length_eq]; rfl) | (simp [← HPERM.out.length_eq]; done) | (simp [errW_none, errW_some] <;> rfl) | (simp [*, errW_none, errW_some] <;> rfl), by repeat (first | (with_reducible first | exact HB.out | apply below_alloc | apply pw_below_drewN | apply below_drew1) | exact HB.out)⟩

/-! ### spec_Joined: function 27 -/
def spec_Joined.l0 : Nat → List ByteArray → ByteArray → ByteArray → Int → Option (ByteArray)
 | 0, _, _, _, _ => none
 | k + 1, x0, x1, x5, x6 => if x6 < (x0.length : Int) then (if x6 > 0 then (if x5.size + x1.size ≤ 9223372036854775807 then (if 0 ≤ x6 then (if (x5 ++ x1).size + (rdOf ByteArray.empty x0 x6).size ≤ 9223372036854775807 then (spec_Joined.l0 k x0 x1 ((x5 ++ x1) ++ (rdOf ByteArray.empty x0 x6)) (wrap64 (x6 + 1))) else (none)) else (none)) else (none)) else (if 0 ≤ x6 then (if x5.size + (rdOf ByteArray.empty x0 x6).size ≤ 9223372036854775807 then (spec_Joined.l0 k x0 x1 (x5 ++ (rdOf ByteArray.empty x0 x6)) (wrap64 (x6 + 1))) else (none)) else (none))) else (some x5)
def spec_Joined.f (k : Nat) (l0 : List ByteArray) (a1 : ByteArray) : Option (ByteArray) := spec_Joined.l0 k l0 a1 (⟨#[]⟩ : ByteArray) 0
theorem spec_Joined.mono_l : ∀ k, (∀ y0 y1 y2 y3, LeO (spec_Joined.l0 k y0 y1 y2 y3) (spec_Joined.l0 (k + 1) y0 y1 y2 y3))
 | 0 => fun _ _ _ _ r h => by simp [spec_Joined.l0] at h
 | k + 1 => by
  have ih0 := spec_Joined.mono_l k
  ·intro y0 y1 y2 y3
   unfold spec_Joined.l0
   repeat' first
   | (with_reducible exact ih0 _ _ _ _)
   | (with_reducible exact LeO.refl _)
   | (with_reducible exact LeO.none _)
   | (with_reducible refine LeO.ite ?_ ?_)
   | (with_reducible refine LeO.bind ?_ (fun _ => ?_))
   | exact ih0 _ _ _ _
   | exact LeO.none _
   | refine LeO.ite ?_ ?_
   | refine LeO.bind ?_ (fun _ => ?_)
theorem spec_Joined.mono : ∀ a0 a1 k, LeO (spec_Joined.f k a0 a1) (spec_Joined.f (k + 1) a0 a1) := by
 intro a0 a1 k
 have ih0 := spec_Joined.mono_l k
 unfold spec_Joined.f
 repeat' first
   | (with_reducible exact ih0 _ _ _ _)
   | (with_reducible exact LeO.refl _)
   | (with_reducible exact LeO.none _)
   | (with_reducible refine LeO.ite ?_ ?_)
   | (with_reducible refine LeO.bind ?_ (fun _ => ?_))
   | exact ih0 _ _ _ _
   | exact LeO.none _
   | refine LeO.ite ?_ ?_
   | refine LeO.bind ?_ (fun _ => ?_)
set_option maxHeartbeats 8000000 in
set_option maxRecDepth 100000 in
theorem spec_Joined.calls (k : Nat) (A0 : Option Addr) (c0 : Nat) (l0 : List ByteArray) (a1 : ByteArray) (r : ByteArray) (w : World) (hr0 : Kd.C Kd.string w A0 l0.length l0) (hc0 : l0.length ≤ c0) (h : spec_Joined.f k l0 a1 = some r) :
  Calls Tryz.prog 27 #[.slice A0 l0.length c0, .string a1] w fun e w' => e = .returned (.string r) ∧ Drawn0 w w' := by
 have HR0 := Aside0.mk hr0
 have HC0 := Aside0.mk hc0
 clear hr0 hc0
 have H : (spec_Joined.l0 k l0 a1 (⟨#[]⟩ : ByteArray) 0) = some r := h
 clear h
 have H' := Aside0.mk H
 clear H
 go_enter Tryz.func27, Tryz.ntmps27
 go_wp2
 go_loopg [5, 6] k (fun kq v5 v6 w' => ∃ (x5_1 : ByteArray) (x6_1 : Int), v5 = .string x5_1 ∧ v6 = .int .i64 x6_1 ∧ Aside0 (spec_Joined.l0 kq l0 a1 x5_1 x6_1 = some r) ∧ Aside0 (kq ≤ k) ∧ Drawn0 w w')
 case atStart => exact ⟨((⟨#[]⟩ : ByteArray)), (0), orf, orf, H', ⟨Nat.le_refl _⟩, by repeat (first | exact Drawn0.refl _ | apply Drawn0.step)⟩
 case round =>
  clear H'
  try clear c2
  try clear p2
  obtain ⟨x5_1, x6_1, rfl, rfl, HA, HK1, ⟨m1, rfl⟩⟩ := hrel
  cases gk with
  | zero => exact absurd HA.out (by simp [spec_Joined.l0])
  | succ k1 =>
   have H := HA.out
   clear HA
   simp only [spec_Joined.l0] at H
   by_cases c3 : x6_1 < (l0.length : Int)
   ·rw [if_pos c3] at H
    have c3b0 : decide (x6_1 < (l0.length : Int)) = true := decide_eq_true c3
    clear c3
    by_cases c4 : x6_1 > 0
    ·rw [if_pos c4] at H
     have c4b0 : decide (0 < x6_1) = true := decide_eq_true c4
     clear c4
     by_cases c5 : x5_1.size + a1.size ≤ 9223372036854775807
     ·rw [if_pos c5] at H
      have c5b0 := eq_true c5
      have c5b1 : decide (x5_1.size + a1.size ≤ 9223372036854775807) = true := decide_eq_true c5
      try have c5b2 : (9223372036854775807 < x5_1.size + a1.size) = False := eq_false (Nat.not_lt.2 c5)
      by_cases c6 : 0 ≤ x6_1
      ·rw [if_pos c6] at H
       have c6b0 : decide (0 ≤ x6_1) = true := decide_eq_true c6
       clear c6
       by_cases c7 : (x5_1 ++ a1).size + (rdOf ByteArray.empty l0 x6_1).size ≤ 9223372036854775807
       ·rw [if_pos c7] at H
        have c7b0 := eq_true c7
        have c7b1 : decide ((x5_1 ++ a1).size + (rdOf ByteArray.empty l0 x6_1).size ≤ 9223372036854775807) = true := decide_eq_true c7
        try have c7b2 : (9223372036854775807 < (x5_1 ++ a1).size + (rdOf ByteArray.empty l0 x6_1).size) = False := eq_false (Nat.not_lt.2 c7)
        have H' := Aside0.mk H
        clear H
        have p157 : 0 ≤ (x6_1 : Int) := odt
        have q157 : x6_1 < (l0.length : Int) := odt
        obtain ⟨ad157, e157, hx157_0⟩ := Kd.at_string HR0.out x6_1 p157 q157
        cases e157
        replace p157 := eq_true p157
        replace q157 := eq_true q157
        go_wp2
        go_roundg k1
        case measure => have := HK1.out; omega
        case rel => exact ⟨((x5_1 ++ a1) ++ (rdOf ByteArray.empty l0 x6_1)), (wrap64 (x6_1 + 1)), orf, orf, H', ⟨by have := HK1.out; omega⟩, by repeat (first | exact Drawn0.refl _ | apply Drawn0.step)⟩
       ·rw [if_neg c7] at H
        exact absurd H (by simp)
      ·rw [if_neg c6] at H
       exact absurd H (by simp)
     ·rw [if_neg c5] at H
      exact absurd H (by simp)
    ·rw [if_neg c4] at H
     have c4b0 : decide (0 < x6_1) = false := decide_eq_false c4
     clear c4
     by_cases c8 : 0 ≤ x6_1
     ·rw [if_pos c8] at H
      have c8b0 : decide (0 ≤ x6_1) = true := decide_eq_true c8
      clear c8
      by_cases c9 : x5_1.size + (rdOf ByteArray.empty l0 x6_1).size ≤ 9223372036854775807
      ·rw [if_pos c9] at H
       have c9b0 := eq_true c9
       have c9b1 : decide (x5_1.size + (rdOf ByteArray.empty l0 x6_1).size ≤ 9223372036854775807) = true := decide_eq_true c9
       try have c9b2 : (9223372036854775807 < x5_1.size + (rdOf ByteArray.empty l0 x6_1).size) = False := eq_false (Nat.not_lt.2 c9)
       have H' := Aside0.mk H
       clear H
       have p158 : 0 ≤ (x6_1 : Int) := odt
       have q158 : x6_1 < (l0.length : Int) := odt
       obtain ⟨ad158, e158, hx158_0⟩ := Kd.at_string HR0.out x6_1 p158 q158
       cases e158
       replace p158 := eq_true p158
       replace q158 := eq_true q158
       go_wp2
       go_roundg k1
       case measure => have := HK1.out; omega
       case rel => exact ⟨(x5_1 ++ (rdOf ByteArray.empty l0 x6_1)), (wrap64 (x6_1 + 1)), orf, orf, H', ⟨by have := HK1.out; omega⟩, by repeat (first | exact Drawn0.refl _ | apply Drawn0.step)⟩
      ·rw [if_neg c9] at H
       exact absurd H (by simp)
     ·rw [if_neg c8] at H
      exact absurd H (by simp)
   ·rw [if_neg c3] at H
    have c3b0 : decide (x6_1 < (l0.length : Int)) = false := decide_eq_false c3
    clear c3
    obtain rfl := Option.some.inj H
    go_wp2
    go_ret
    exact ⟨by first | rfl | (rw [← HPERM.out.length_eq]; rfl) | (simp [← HPERM.out.length_eq]; done) | (simp; done) | (simp [*]; done), by repeat (first | exact Drawn0.refl _ | apply Drawn0.step)⟩

end Go.Proofs.YtjglpjlbnmpdfaaGreatDoor.PFnModelDefs
