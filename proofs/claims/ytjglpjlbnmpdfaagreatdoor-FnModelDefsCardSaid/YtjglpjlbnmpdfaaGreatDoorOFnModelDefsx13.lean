/- The machine side of laws.FnModelDefs: each function of this text answers what its Lean function answers (written for this claim by a program of this session over the kit's print; no condition beyond what each theorem says). -/
import Derived.Test.YtjglpjlbnmpdfaaGreatDoorOFnModelDefsx0
import Derived.Test.YtjglpjlbnmpdfaaGreatDoorOFnModelDefsx2
import Derived.Test.YtjglpjlbnmpdfaaGreatDoorOFnModelDefsx5
import Derived.Test.YtjglpjlbnmpdfaaGreatDoorOFnModelDefsx9
import Derived.Test.YtjglpjlbnmpdfaaGreatDoorOFnModelDefsx10
import Derived.Test.YtjglpjlbnmpdfaaGreatDoorOFnModelDefsx11
import Derived.Test.YtjglpjlbnmpdfaaGreatDoorOFnModelDefsx12
import Derived.Test.YtjglpjlbnmpdfaaGreatDoorOFnModelDefsx90
namespace Go.Proofs.YtjglpjlbnmpdfaaGreatDoor.PFnModelDefs
open Go.RowKit Go.Proofs.YtjglpjlbnmpdfaaGreatDoorW.PrintWords Go.Proofs.YtjglpjlbnmpdfaaGreatDoorW.PrintLast Go.Proofs.YtjglpjlbnmpdfaaGreatDoorW.PrintMore
attribute [local go_sem] max2_int min2_int max_two min_two max_three min_three max_four min_four   -- for this text's walks alone
set_option linter.unusedVariables false
set_option linter.unusedSimpArgs false

/-! ### spec_Escaped: function 30 -/
def spec_Escaped.l0 : Nat → ByteArray → ByteArray → ByteArray → Bool → Int → Option (ByteArray)
 | 0, _, _, _, _, _ => none
 | k + 1, x0, x3, x4, x5, x6 => if x6 < (x0.size : Int) then (if 0 ≤ x6 then ((spec_WordByte.f (bt x0 x6)).bind fun t201 => (if t201 = true then (if x6 ≤ (wrap64 (x6 + 1)) then (if (wrap64 (x6 + 1)) ≤ (x0.size : Int) then (if x4.size + (x0.extract (x6 : Int).toNat ((wrap64 (x6 + 1)) : Int).toNat).size ≤ 9223372036854775807 then (spec_Escaped.l0 k x0 x3 (x4 ++ (x0.extract (x6 : Int).toNat ((wrap64 (x6 + 1)) : Int).toNat)) x5 (wrap64 (x6 + 1))) else (none)) else (none)) else (none)) else (if (bt x0 x6) = 46 then (if x5 = true then ((spec_Definition.f k x4).bind fun t202 => (if t202 = true then (if x4.size + 1 ≤ 9223372036854775807 then (if x3.size + (x4 ++ (⟨#[95]⟩ : ByteArray)).size ≤ 9223372036854775807 then (spec_Escaped.l0 k x0 (x3 ++ (x4 ++ (⟨#[95]⟩ : ByteArray))) (⟨#[]⟩ : ByteArray) false (wrap64 (x6 + 1))) else (none)) else (none)) else (if x4.size + 1 ≤ 9223372036854775807 then (if x3.size + (x4 ++ (⟨#[46]⟩ : ByteArray)).size ≤ 9223372036854775807 then (spec_Escaped.l0 k x0 (x3 ++ (x4 ++ (⟨#[46]⟩ : ByteArray))) (⟨#[]⟩ : ByteArray) false (wrap64 (x6 + 1))) else (none)) else (none)))) else (if x4.size + 1 ≤ 9223372036854775807 then (if x3.size + (x4 ++ (⟨#[46]⟩ : ByteArray)).size ≤ 9223372036854775807 then (spec_Escaped.l0 k x0 (x3 ++ (x4 ++ (⟨#[46]⟩ : ByteArray))) (⟨#[]⟩ : ByteArray) false (wrap64 (x6 + 1))) else (none)) else (none))) else (if x6 ≤ (wrap64 (x6 + 1)) then (if (wrap64 (x6 + 1)) ≤ (x0.size : Int) then (if x4.size + (x0.extract (x6 : Int).toNat ((wrap64 (x6 + 1)) : Int).toNat).size ≤ 9223372036854775807 then (if x3.size + (x4 ++ (x0.extract (x6 : Int).toNat ((wrap64 (x6 + 1)) : Int).toNat)).size ≤ 9223372036854775807 then (spec_Escaped.l0 k x0 (x3 ++ (x4 ++ (x0.extract (x6 : Int).toNat ((wrap64 (x6 + 1)) : Int).toNat))) (⟨#[]⟩ : ByteArray) true (wrap64 (x6 + 1))) else (none)) else (none)) else (none)) else (none))))) else (none)) else (if x3.size + x4.size ≤ 9223372036854775807 then (some (x3 ++ x4)) else (none))
def spec_Escaped.f (k : Nat) (a0 : ByteArray) : Option (ByteArray) := spec_Escaped.l0 k a0 (⟨#[]⟩ : ByteArray) (⟨#[]⟩ : ByteArray) true 0
theorem spec_Escaped.mono_l : ∀ k, (∀ y0 y1 y2 y3 y4, LeO (spec_Escaped.l0 k y0 y1 y2 y3 y4) (spec_Escaped.l0 (k + 1) y0 y1 y2 y3 y4))
 | 0 => fun _ _ _ _ _ r h => by simp [spec_Escaped.l0] at h
 | k + 1 => by
  have ih0 := spec_Escaped.mono_l k
  ·intro y0 y1 y2 y3 y4
   unfold spec_Escaped.l0
   repeat' first
   | (with_reducible exact ih0 _ _ _ _ _)
   | (with_reducible exact spec_Definition.mono _ _)
   | (with_reducible exact LeO.refl _)
   | (with_reducible exact LeO.none _)
   | (with_reducible refine LeO.ite ?_ ?_)
   | (with_reducible refine LeO.bind ?_ (fun _ => ?_))
   | exact ih0 _ _ _ _ _
   | exact spec_Definition.mono _ _
   | exact LeO.none _
   | refine LeO.ite ?_ ?_
   | refine LeO.bind ?_ (fun _ => ?_)
theorem spec_Escaped.mono : ∀ a0 k, LeO (spec_Escaped.f k a0) (spec_Escaped.f (k + 1) a0) := by
 intro a0 k
 have ih0 := spec_Escaped.mono_l k
 unfold spec_Escaped.f
 repeat' first
   | (with_reducible exact ih0 _ _ _ _ _)
   | (with_reducible exact spec_Definition.mono _ _)
   | (with_reducible exact LeO.refl _)
   | (with_reducible exact LeO.none _)
   | (with_reducible refine LeO.ite ?_ ?_)
   | (with_reducible refine LeO.bind ?_ (fun _ => ?_))
   | exact ih0 _ _ _ _ _
   | exact spec_Definition.mono _ _
   | exact LeO.none _
   | refine LeO.ite ?_ ?_
   | refine LeO.bind ?_ (fun _ => ?_)
set_option maxHeartbeats 8000000 in
set_option maxRecDepth 100000 in
theorem spec_Escaped.calls (k : Nat) (a0 : ByteArray) (r : ByteArray) (w : World) (h : spec_Escaped.f k a0 = some r) :
  Calls Tryz.prog 30 #[.string a0] w fun e w' => e = .returned (.string r) ∧ Drawn0 w w' := by
 have H : (spec_Escaped.l0 k a0 (⟨#[]⟩ : ByteArray) (⟨#[]⟩ : ByteArray) true 0) = some r := h
 clear h
 have H' := Aside0.mk H
 clear H
 go_enter Tryz.func30, Tryz.ntmps30
 go_wp2
 go_loopg [3, 4, 5, 6] k (fun kq v3 v4 v5 v6 w' => ∃ (x3_1 : ByteArray) (x4_1 : ByteArray) (x5_1 : Bool) (x6_1 : Int), v3 = .string x3_1 ∧ v4 = .string x4_1 ∧ v5 = .bool x5_1 ∧ v6 = .int .i64 x6_1 ∧ Aside0 (spec_Escaped.l0 kq a0 x3_1 x4_1 x5_1 x6_1 = some r) ∧ Aside0 (kq ≤ k) ∧ Drawn0 w w')
 case atStart => exact ⟨((⟨#[]⟩ : ByteArray)), ((⟨#[]⟩ : ByteArray)), (true), (0), orf, orf, orf, orf, H', ⟨Nat.le_refl _⟩, by repeat (first | exact Drawn0.refl _ | apply Drawn0.step)⟩
 case round =>
  clear H'
  obtain ⟨x3_1, x4_1, x5_1, x6_1, rfl, rfl, rfl, rfl, HA, HK1, ⟨m1, rfl⟩⟩ := hrel
  cases gk with
  | zero => exact absurd HA.out (by simp [spec_Escaped.l0])
  | succ k1 =>
   have H := HA.out
   clear HA
   simp only [spec_Escaped.l0] at H
   by_cases c2 : x6_1 < (a0.size : Int)
   ·rw [if_pos c2] at H
    have c2b0 : decide (x6_1 < (a0.size : Int)) = true := decide_eq_true c2
    clear c2
    by_cases c3 : 0 ≤ x6_1
    ·rw [if_pos c3] at H
     have c3b0 : decide (0 ≤ x6_1) = true := decide_eq_true c3
     clear c3
     replace H := Option.bind_eq_some_iff.mp H
     obtain ⟨t201, A50, H⟩ := H
     replace H : (if t201 = true then (if x6_1 ≤ (wrap64 (x6_1 + 1)) then (if (wrap64 (x6_1 + 1)) ≤ (a0.size : Int) then (if x4_1.size + (a0.extract (x6_1 : Int).toNat ((wrap64 (x6_1 + 1)) : Int).toNat).size ≤ 9223372036854775807 then (spec_Escaped.l0 k1 a0 x3_1 (x4_1 ++ (a0.extract (x6_1 : Int).toNat ((wrap64 (x6_1 + 1)) : Int).toNat)) x5_1 (wrap64 (x6_1 + 1))) else (none)) else (none)) else (none)) else (if (bt a0 x6_1) = 46 then (if x5_1 = true then ((spec_Definition.f k1 x4_1).bind fun t202 => (if t202 = true then (if x4_1.size + 1 ≤ 9223372036854775807 then (if x3_1.size + (x4_1 ++ (⟨#[95]⟩ : ByteArray)).size ≤ 9223372036854775807 then (spec_Escaped.l0 k1 a0 (x3_1 ++ (x4_1 ++ (⟨#[95]⟩ : ByteArray))) (⟨#[]⟩ : ByteArray) false (wrap64 (x6_1 + 1))) else (none)) else (none)) else (if x4_1.size + 1 ≤ 9223372036854775807 then (if x3_1.size + (x4_1 ++ (⟨#[46]⟩ : ByteArray)).size ≤ 9223372036854775807 then (spec_Escaped.l0 k1 a0 (x3_1 ++ (x4_1 ++ (⟨#[46]⟩ : ByteArray))) (⟨#[]⟩ : ByteArray) false (wrap64 (x6_1 + 1))) else (none)) else (none)))) else (if x4_1.size + 1 ≤ 9223372036854775807 then (if x3_1.size + (x4_1 ++ (⟨#[46]⟩ : ByteArray)).size ≤ 9223372036854775807 then (spec_Escaped.l0 k1 a0 (x3_1 ++ (x4_1 ++ (⟨#[46]⟩ : ByteArray))) (⟨#[]⟩ : ByteArray) false (wrap64 (x6_1 + 1))) else (none)) else (none))) else (if x6_1 ≤ (wrap64 (x6_1 + 1)) then (if (wrap64 (x6_1 + 1)) ≤ (a0.size : Int) then (if x4_1.size + (a0.extract (x6_1 : Int).toNat ((wrap64 (x6_1 + 1)) : Int).toNat).size ≤ 9223372036854775807 then (if x3_1.size + (x4_1 ++ (a0.extract (x6_1 : Int).toNat ((wrap64 (x6_1 + 1)) : Int).toNat)).size ≤ 9223372036854775807 then (spec_Escaped.l0 k1 a0 (x3_1 ++ (x4_1 ++ (a0.extract (x6_1 : Int).toNat ((wrap64 (x6_1 + 1)) : Int).toNat))) (⟨#[]⟩ : ByteArray) true (wrap64 (x6_1 + 1))) else (none)) else (none)) else (none)) else (none)))) = some r := H
     have A5 := Aside0.mk A50
     clear A50
     by_cases c6 : t201 = true
     ·subst c6
      have H1 : (if x6_1 ≤ (wrap64 (x6_1 + 1)) then (if (wrap64 (x6_1 + 1)) ≤ (a0.size : Int) then (if x4_1.size + (a0.extract (x6_1 : Int).toNat ((wrap64 (x6_1 + 1)) : Int).toNat).size ≤ 9223372036854775807 then (spec_Escaped.l0 k1 a0 x3_1 (x4_1 ++ (a0.extract (x6_1 : Int).toNat ((wrap64 (x6_1 + 1)) : Int).toNat)) x5_1 (wrap64 (x6_1 + 1))) else (none)) else (none)) else (none)) = some r := by rw [if_pos rfl] at H; exact H
      clear H
      have H := H1
      clear H1
      have c7b0 := eq_true (odt : 0 ≤ x6_1)
      by_cases c8 : x6_1 ≤ (wrap64 (x6_1 + 1))
      ·rw [if_pos c8] at H
       have c8b0 := eq_true c8
       have c8b1 : decide (x6_1 ≤ (wrap64 (x6_1 + 1))) = true := decide_eq_true c8
       by_cases c9 : (wrap64 (x6_1 + 1)) ≤ (a0.size : Int)
       ·rw [if_pos c9] at H
        have c9b0 := eq_true c9
        have c9b1 : decide ((wrap64 (x6_1 + 1)) ≤ (a0.size : Int)) = true := decide_eq_true c9
        by_cases c10 : x4_1.size + (a0.extract (x6_1 : Int).toNat ((wrap64 (x6_1 + 1)) : Int).toNat).size ≤ 9223372036854775807
        ·rw [if_pos c10] at H
         have c10b0 := eq_true c10
         have c10b1 : decide (x4_1.size + (a0.extract (x6_1 : Int).toNat ((wrap64 (x6_1 + 1)) : Int).toNat).size ≤ 9223372036854775807) = true := decide_eq_true c10
         try have c10b2 : (9223372036854775807 < x4_1.size + (a0.extract (x6_1 : Int).toNat ((wrap64 (x6_1 + 1)) : Int).toNat).size) = False := eq_false (Nat.not_lt.2 c10)
         have H' := Aside0.mk H
         clear H
         have p4 : 0 ≤ (x6_1 : Int) := odt
         have q4 : x6_1 < (a0.size : Int) := odt
         have hx4 := bt_at a0 x6_1
         replace p4 := eq_true p4
         replace q4 := eq_true q4
         go_wp2_with (first | ((with_reducible refine gate_callee (f := 45) rfl ?_); refine goesL_ (some 28) rfl rfl Tryz.func45 (by kernel_rfl) rfl #[.int .u8 (bt a0 x6_1)] rfl (by (try simp only [List.map_toArray, List.map_cons, List.map_nil]); first | done | rfl | (simp only [List.length_drop, List.length_take]; rfl)) ?_; (with_reducible refine (spec_WordByte.calls (bt a0 x6_1) true _ A5.out).mono ?_); rintro e w' ⟨rfl, ⟨nd, rfl⟩⟩; refine ⟨_, rfl, ?_⟩))
         go_roundg k1
         case measure => have := HK1.out; omega
         case rel => exact ⟨(x3_1), (x4_1 ++ (a0.extract (x6_1 : Int).toNat ((wrap64 (x6_1 + 1)) : Int).toNat)), (x5_1), (wrap64 (x6_1 + 1)), orf, orf, orf, orf, H', ⟨by have := HK1.out; omega⟩, by repeat (first | exact Drawn0.refl _ | apply Drawn0.step)⟩
        ·rw [if_neg c10] at H
         exact absurd H (by simp)
       ·rw [if_neg c9] at H
        exact absurd H (by simp)
      ·rw [if_neg c8] at H
       exact absurd H (by simp)
     ·replace c6 := Bool.eq_false_iff.mpr c6
      subst c6
      have H1 : (if (bt a0 x6_1) = 46 then (if x5_1 = true then ((spec_Definition.f k1 x4_1).bind fun t202 => (if t202 = true then (if x4_1.size + 1 ≤ 9223372036854775807 then (if x3_1.size + (x4_1 ++ (⟨#[95]⟩ : ByteArray)).size ≤ 9223372036854775807 then (spec_Escaped.l0 k1 a0 (x3_1 ++ (x4_1 ++ (⟨#[95]⟩ : ByteArray))) (⟨#[]⟩ : ByteArray) false (wrap64 (x6_1 + 1))) else (none)) else (none)) else (if x4_1.size + 1 ≤ 9223372036854775807 then (if x3_1.size + (x4_1 ++ (⟨#[46]⟩ : ByteArray)).size ≤ 9223372036854775807 then (spec_Escaped.l0 k1 a0 (x3_1 ++ (x4_1 ++ (⟨#[46]⟩ : ByteArray))) (⟨#[]⟩ : ByteArray) false (wrap64 (x6_1 + 1))) else (none)) else (none)))) else (if x4_1.size + 1 ≤ 9223372036854775807 then (if x3_1.size + (x4_1 ++ (⟨#[46]⟩ : ByteArray)).size ≤ 9223372036854775807 then (spec_Escaped.l0 k1 a0 (x3_1 ++ (x4_1 ++ (⟨#[46]⟩ : ByteArray))) (⟨#[]⟩ : ByteArray) false (wrap64 (x6_1 + 1))) else (none)) else (none))) else (if x6_1 ≤ (wrap64 (x6_1 + 1)) then (if (wrap64 (x6_1 + 1)) ≤ (a0.size : Int) then (if x4_1.size + (a0.extract (x6_1 : Int).toNat ((wrap64 (x6_1 + 1)) : Int).toNat).size ≤ 9223372036854775807 then (if x3_1.size + (x4_1 ++ (a0.extract (x6_1 : Int).toNat ((wrap64 (x6_1 + 1)) : Int).toNat)).size ≤ 9223372036854775807 then (spec_Escaped.l0 k1 a0 (x3_1 ++ (x4_1 ++ (a0.extract (x6_1 : Int).toNat ((wrap64 (x6_1 + 1)) : Int).toNat))) (⟨#[]⟩ : ByteArray) true (wrap64 (x6_1 + 1))) else (none)) else (none)) else (none)) else (none))) = some r := by rw [if_neg (show ¬ (false = true) by decide)] at H; exact H
      clear H
      have H := H1
      clear H1
      by_cases c11 : (bt a0 x6_1) = 46
      ·rw [if_pos c11] at H
       have c11b0 : ((bt a0 x6_1) == 46) = true := beq_iff_eq.mpr c11
       have c11b1 : ((bt a0 x6_1) != 46) = false := bne_eq_false_iff_eq.mpr c11
       clear c11
       by_cases c12 : x5_1 = true
       ·subst c12
        have H1 : ((spec_Definition.f k1 x4_1).bind fun t202 => (if t202 = true then (if x4_1.size + 1 ≤ 9223372036854775807 then (if x3_1.size + (x4_1 ++ (⟨#[95]⟩ : ByteArray)).size ≤ 9223372036854775807 then (spec_Escaped.l0 k1 a0 (x3_1 ++ (x4_1 ++ (⟨#[95]⟩ : ByteArray))) (⟨#[]⟩ : ByteArray) false (wrap64 (x6_1 + 1))) else (none)) else (none)) else (if x4_1.size + 1 ≤ 9223372036854775807 then (if x3_1.size + (x4_1 ++ (⟨#[46]⟩ : ByteArray)).size ≤ 9223372036854775807 then (spec_Escaped.l0 k1 a0 (x3_1 ++ (x4_1 ++ (⟨#[46]⟩ : ByteArray))) (⟨#[]⟩ : ByteArray) false (wrap64 (x6_1 + 1))) else (none)) else (none)))) = some r := by rw [if_pos rfl] at H; exact H
        clear H
        have H := H1
        clear H1
        replace H := Option.bind_eq_some_iff.mp H
        obtain ⟨t202, A130, H⟩ := H
        replace H : (if t202 = true then (if x4_1.size + 1 ≤ 9223372036854775807 then (if x3_1.size + (x4_1 ++ (⟨#[95]⟩ : ByteArray)).size ≤ 9223372036854775807 then (spec_Escaped.l0 k1 a0 (x3_1 ++ (x4_1 ++ (⟨#[95]⟩ : ByteArray))) (⟨#[]⟩ : ByteArray) false (wrap64 (x6_1 + 1))) else (none)) else (none)) else (if x4_1.size + 1 ≤ 9223372036854775807 then (if x3_1.size + (x4_1 ++ (⟨#[46]⟩ : ByteArray)).size ≤ 9223372036854775807 then (spec_Escaped.l0 k1 a0 (x3_1 ++ (x4_1 ++ (⟨#[46]⟩ : ByteArray))) (⟨#[]⟩ : ByteArray) false (wrap64 (x6_1 + 1))) else (none)) else (none))) = some r := H
        have A13 := Aside0.mk A130
        clear A130
        by_cases c14 : t202 = true
        ·subst c14
         have H1 : (if x4_1.size + 1 ≤ 9223372036854775807 then (if x3_1.size + (x4_1 ++ (⟨#[95]⟩ : ByteArray)).size ≤ 9223372036854775807 then (spec_Escaped.l0 k1 a0 (x3_1 ++ (x4_1 ++ (⟨#[95]⟩ : ByteArray))) (⟨#[]⟩ : ByteArray) false (wrap64 (x6_1 + 1))) else (none)) else (none)) = some r := by rw [if_pos rfl] at H; exact H
         clear H
         have H := H1
         clear H1
         by_cases c15 : x4_1.size + 1 ≤ 9223372036854775807
         ·rw [if_pos c15] at H
          have c15b0 := eq_true c15
          have c15b1 : decide (x4_1.size + 1 ≤ 9223372036854775807) = true := decide_eq_true c15
          try have c15b2 : (9223372036854775807 < x4_1.size + 1) = False := eq_false (Nat.not_lt.2 c15)
          by_cases c16 : x3_1.size + (x4_1 ++ (⟨#[95]⟩ : ByteArray)).size ≤ 9223372036854775807
          ·rw [if_pos c16] at H
           have c16b0 := eq_true c16
           have c16b1 : decide (x3_1.size + (x4_1 ++ (⟨#[95]⟩ : ByteArray)).size ≤ 9223372036854775807) = true := decide_eq_true c16
           try have c16b2 : (9223372036854775807 < x3_1.size + (x4_1 ++ (⟨#[95]⟩ : ByteArray)).size) = False := eq_false (Nat.not_lt.2 c16)
           have H' := Aside0.mk H
           clear H
           have p4 : 0 ≤ (x6_1 : Int) := odt
           have q4 : x6_1 < (a0.size : Int) := odt
           have hx4 := bt_at a0 x6_1
           replace p4 := eq_true p4
           replace q4 := eq_true q4
           go_wp2_with (first | ((with_reducible refine gate_callee (f := 45) rfl ?_); refine goesL_ (some 28) rfl rfl Tryz.func45 (by kernel_rfl) rfl #[.int .u8 (bt a0 x6_1)] rfl (by (try simp only [List.map_toArray, List.map_cons, List.map_nil]); first | done | rfl | (simp only [List.length_drop, List.length_take]; rfl)) ?_; (with_reducible refine (spec_WordByte.calls (bt a0 x6_1) false _ A5.out).mono ?_); rintro e w' ⟨rfl, ⟨nd, rfl⟩⟩; refine ⟨_, rfl, ?_⟩) | (go_at_call 46; (with_reducible refine (spec_Definition.calls k1 x4_1 true _ A13.out).mono ?_); rintro e w' ⟨rfl, ⟨nd, rfl⟩⟩))
           go_roundg k1
           case measure => have := HK1.out; omega
           case rel => exact ⟨(x3_1 ++ (x4_1 ++ (⟨#[95]⟩ : ByteArray))), ((⟨#[]⟩ : ByteArray)), (false), (wrap64 (x6_1 + 1)), orf, orf, orf, orf, H', ⟨by have := HK1.out; omega⟩, by repeat (first | exact Drawn0.refl _ | apply Drawn0.step)⟩
          ·rw [if_neg c16] at H
           exact absurd H (by simp)
         ·rw [if_neg c15] at H
          exact absurd H (by simp)
        ·replace c14 := Bool.eq_false_iff.mpr c14
         subst c14
         have H1 : (if x4_1.size + 1 ≤ 9223372036854775807 then (if x3_1.size + (x4_1 ++ (⟨#[46]⟩ : ByteArray)).size ≤ 9223372036854775807 then (spec_Escaped.l0 k1 a0 (x3_1 ++ (x4_1 ++ (⟨#[46]⟩ : ByteArray))) (⟨#[]⟩ : ByteArray) false (wrap64 (x6_1 + 1))) else (none)) else (none)) = some r := by rw [if_neg (show ¬ (false = true) by decide)] at H; exact H
         clear H
         have H := H1
         clear H1
         by_cases c17 : x4_1.size + 1 ≤ 9223372036854775807
         ·rw [if_pos c17] at H
          have c17b0 := eq_true c17
          have c17b1 : decide (x4_1.size + 1 ≤ 9223372036854775807) = true := decide_eq_true c17
          try have c17b2 : (9223372036854775807 < x4_1.size + 1) = False := eq_false (Nat.not_lt.2 c17)
          by_cases c18 : x3_1.size + (x4_1 ++ (⟨#[46]⟩ : ByteArray)).size ≤ 9223372036854775807
          ·rw [if_pos c18] at H
           have c18b0 := eq_true c18
           have c18b1 : decide (x3_1.size + (x4_1 ++ (⟨#[46]⟩ : ByteArray)).size ≤ 9223372036854775807) = true := decide_eq_true c18
           try have c18b2 : (9223372036854775807 < x3_1.size + (x4_1 ++ (⟨#[46]⟩ : ByteArray)).size) = False := eq_false (Nat.not_lt.2 c18)
           have H' := Aside0.mk H
           clear H
           have p4 : 0 ≤ (x6_1 : Int) := odt
           have q4 : x6_1 < (a0.size : Int) := odt
           have hx4 := bt_at a0 x6_1
           replace p4 := eq_true p4
           replace q4 := eq_true q4
           go_wp2_with (first | ((with_reducible refine gate_callee (f := 45) rfl ?_); refine goesL_ (some 28) rfl rfl Tryz.func45 (by kernel_rfl) rfl #[.int .u8 (bt a0 x6_1)] rfl (by (try simp only [List.map_toArray, List.map_cons, List.map_nil]); first | done | rfl | (simp only [List.length_drop, List.length_take]; rfl)) ?_; (with_reducible refine (spec_WordByte.calls (bt a0 x6_1) false _ A5.out).mono ?_); rintro e w' ⟨rfl, ⟨nd, rfl⟩⟩; refine ⟨_, rfl, ?_⟩) | (go_at_call 46; (with_reducible refine (spec_Definition.calls k1 x4_1 false _ A13.out).mono ?_); rintro e w' ⟨rfl, ⟨nd, rfl⟩⟩))
           go_roundg k1
           case measure => have := HK1.out; omega
           case rel => exact ⟨(x3_1 ++ (x4_1 ++ (⟨#[46]⟩ : ByteArray))), ((⟨#[]⟩ : ByteArray)), (false), (wrap64 (x6_1 + 1)), orf, orf, orf, orf, H', ⟨by have := HK1.out; omega⟩, by repeat (first | exact Drawn0.refl _ | apply Drawn0.step)⟩
          ·rw [if_neg c18] at H
           exact absurd H (by simp)
         ·rw [if_neg c17] at H
          exact absurd H (by simp)
       ·replace c12 := Bool.eq_false_iff.mpr c12
        subst c12
        have H1 : (if x4_1.size + 1 ≤ 9223372036854775807 then (if x3_1.size + (x4_1 ++ (⟨#[46]⟩ : ByteArray)).size ≤ 9223372036854775807 then (spec_Escaped.l0 k1 a0 (x3_1 ++ (x4_1 ++ (⟨#[46]⟩ : ByteArray))) (⟨#[]⟩ : ByteArray) false (wrap64 (x6_1 + 1))) else (none)) else (none)) = some r := by rw [if_neg (show ¬ (false = true) by decide)] at H; exact H
        clear H
        have H := H1
        clear H1
        by_cases c19 : x4_1.size + 1 ≤ 9223372036854775807
        ·rw [if_pos c19] at H
         have c19b0 := eq_true c19
         have c19b1 : decide (x4_1.size + 1 ≤ 9223372036854775807) = true := decide_eq_true c19
         try have c19b2 : (9223372036854775807 < x4_1.size + 1) = False := eq_false (Nat.not_lt.2 c19)
         by_cases c20 : x3_1.size + (x4_1 ++ (⟨#[46]⟩ : ByteArray)).size ≤ 9223372036854775807
         ·rw [if_pos c20] at H
          have c20b0 := eq_true c20
          have c20b1 : decide (x3_1.size + (x4_1 ++ (⟨#[46]⟩ : ByteArray)).size ≤ 9223372036854775807) = true := decide_eq_true c20
          try have c20b2 : (9223372036854775807 < x3_1.size + (x4_1 ++ (⟨#[46]⟩ : ByteArray)).size) = False := eq_false (Nat.not_lt.2 c20)
          have H' := Aside0.mk H
          clear H
          have p4 : 0 ≤ (x6_1 : Int) := odt
          have q4 : x6_1 < (a0.size : Int) := odt
          have hx4 := bt_at a0 x6_1
          replace p4 := eq_true p4
          replace q4 := eq_true q4
          go_wp2_with (first | ((with_reducible refine gate_callee (f := 45) rfl ?_); refine goesL_ (some 28) rfl rfl Tryz.func45 (by kernel_rfl) rfl #[.int .u8 (bt a0 x6_1)] rfl (by (try simp only [List.map_toArray, List.map_cons, List.map_nil]); first | done | rfl | (simp only [List.length_drop, List.length_take]; rfl)) ?_; (with_reducible refine (spec_WordByte.calls (bt a0 x6_1) false _ A5.out).mono ?_); rintro e w' ⟨rfl, ⟨nd, rfl⟩⟩; refine ⟨_, rfl, ?_⟩))
          go_roundg k1
          case measure => have := HK1.out; omega
          case rel => exact ⟨(x3_1 ++ (x4_1 ++ (⟨#[46]⟩ : ByteArray))), ((⟨#[]⟩ : ByteArray)), (false), (wrap64 (x6_1 + 1)), orf, orf, orf, orf, H', ⟨by have := HK1.out; omega⟩, by repeat (first | exact Drawn0.refl _ | apply Drawn0.step)⟩
         ·rw [if_neg c20] at H
          exact absurd H (by simp)
        ·rw [if_neg c19] at H
         exact absurd H (by simp)
      ·rw [if_neg c11] at H
       have c11b0 : ((bt a0 x6_1) == 46) = false := beq_eq_false_iff_ne.mpr c11
       have c11b1 : ((bt a0 x6_1) != 46) = true := bne_iff_ne.mpr c11
       have c21b0 := eq_true (odt : 0 ≤ x6_1)
       by_cases c22 : x6_1 ≤ (wrap64 (x6_1 + 1))
       ·rw [if_pos c22] at H
        have c22b0 := eq_true c22
        have c22b1 : decide (x6_1 ≤ (wrap64 (x6_1 + 1))) = true := decide_eq_true c22
        by_cases c23 : (wrap64 (x6_1 + 1)) ≤ (a0.size : Int)
        ·rw [if_pos c23] at H
         have c23b0 := eq_true c23
         have c23b1 : decide ((wrap64 (x6_1 + 1)) ≤ (a0.size : Int)) = true := decide_eq_true c23
         by_cases c24 : x4_1.size + (a0.extract (x6_1 : Int).toNat ((wrap64 (x6_1 + 1)) : Int).toNat).size ≤ 9223372036854775807
         ·rw [if_pos c24] at H
          have c24b0 := eq_true c24
          have c24b1 : decide (x4_1.size + (a0.extract (x6_1 : Int).toNat ((wrap64 (x6_1 + 1)) : Int).toNat).size ≤ 9223372036854775807) = true := decide_eq_true c24
          try have c24b2 : (9223372036854775807 < x4_1.size + (a0.extract (x6_1 : Int).toNat ((wrap64 (x6_1 + 1)) : Int).toNat).size) = False := eq_false (Nat.not_lt.2 c24)
          by_cases c25 : x3_1.size + (x4_1 ++ (a0.extract (x6_1 : Int).toNat ((wrap64 (x6_1 + 1)) : Int).toNat)).size ≤ 9223372036854775807
          ·rw [if_pos c25] at H
           have c25b0 := eq_true c25
           have c25b1 : decide (x3_1.size + (x4_1 ++ (a0.extract (x6_1 : Int).toNat ((wrap64 (x6_1 + 1)) : Int).toNat)).size ≤ 9223372036854775807) = true := decide_eq_true c25
           try have c25b2 : (9223372036854775807 < x3_1.size + (x4_1 ++ (a0.extract (x6_1 : Int).toNat ((wrap64 (x6_1 + 1)) : Int).toNat)).size) = False := eq_false (Nat.not_lt.2 c25)
           have H' := Aside0.mk H
           clear H
           have p4 : 0 ≤ (x6_1 : Int) := odt
           have q4 : x6_1 < (a0.size : Int) := odt
           have hx4 := bt_at a0 x6_1
           replace p4 := eq_true p4
           replace q4 := eq_true q4
           go_wp2_with (first | ((with_reducible refine gate_callee (f := 45) rfl ?_); refine goesL_ (some 28) rfl rfl Tryz.func45 (by kernel_rfl) rfl #[.int .u8 (bt a0 x6_1)] rfl (by (try simp only [List.map_toArray, List.map_cons, List.map_nil]); first | done | rfl | (simp only [List.length_drop, List.length_take]; rfl)) ?_; (with_reducible refine (spec_WordByte.calls (bt a0 x6_1) false _ A5.out).mono ?_); rintro e w' ⟨rfl, ⟨nd, rfl⟩⟩; refine ⟨_, rfl, ?_⟩))
           go_roundg k1
           case measure => have := HK1.out; omega
           case rel => exact ⟨(x3_1 ++ (x4_1 ++ (a0.extract (x6_1 : Int).toNat ((wrap64 (x6_1 + 1)) : Int).toNat))), ((⟨#[]⟩ : ByteArray)), (true), (wrap64 (x6_1 + 1)), orf, orf, orf, orf, H', ⟨by have := HK1.out; omega⟩, by repeat (first | exact Drawn0.refl _ | apply Drawn0.step)⟩
          ·rw [if_neg c25] at H
           exact absurd H (by simp)
         ·rw [if_neg c24] at H
          exact absurd H (by simp)
        ·rw [if_neg c23] at H
         exact absurd H (by simp)
       ·rw [if_neg c22] at H
        exact absurd H (by simp)
    ·rw [if_neg c3] at H
     exact absurd H (by simp)
   ·rw [if_neg c2] at H
    have c2b0 : decide (x6_1 < (a0.size : Int)) = false := decide_eq_false c2
    clear c2
    by_cases c26 : x3_1.size + x4_1.size ≤ 9223372036854775807
    ·rw [if_pos c26] at H
     have c26b0 := eq_true c26
     have c26b1 : decide (x3_1.size + x4_1.size ≤ 9223372036854775807) = true := decide_eq_true c26
     try have c26b2 : (9223372036854775807 < x3_1.size + x4_1.size) = False := eq_false (Nat.not_lt.2 c26)
     obtain rfl := Option.some.inj H
     go_wp2
     go_ret
     exact ⟨by first | rfl | (rw [← HPERM.out.length_eq]; rfl) | (simp [← HPERM.out.length_eq]; done) | (simp; done) | (simp [*]; done), by repeat (first | exact Drawn0.refl _ | apply Drawn0.step)⟩
    ·rw [if_neg c26] at H
     exact absurd H (by simp)

/-! ### spec_ModelMeans: function 15 -/
def spec_ModelMeans.l0 : Nat → List (S28) → List (S28) → Int → Option ((List (S28)))
 | 0, _, _, _ => none
 | k + 1, x0, x3, x4 => if x4 < (x0.length : Int) then (if 0 ≤ x4 then (if ((rd_T28 x0 x4).f0).toList = ([101] : List UInt8) then ((spec_Escaped.f k ((rd_T28 x0 x4).f2)).bind fun t205 => (if x3.length < 2932031007402 then (spec_ModelMeans.l0 k x0 (x3 ++ [(⟨(rd_T28 x0 x4).f0, (rd_T28 x0 x4).f1, t205⟩ : S28)]) (wrap64 (x4 + 1))) else (none))) else (if ((rd_T28 x0 x4).f0).toList = ([109] : List UInt8) then ((spec_Escaped.f k ((rd_T28 x0 x4).f2)).bind fun t209 => (if x3.length < 2932031007402 then (spec_ModelMeans.l0 k x0 (x3 ++ [(⟨(rd_T28 x0 x4).f0, (rd_T28 x0 x4).f1, t209⟩ : S28)]) (wrap64 (x4 + 1))) else (none))) else (if x3.length < 2932031007402 then (spec_ModelMeans.l0 k x0 (x3 ++ [(⟨(rd_T28 x0 x4).f0, (rd_T28 x0 x4).f1, (rd_T28 x0 x4).f2⟩ : S28)]) (wrap64 (x4 + 1))) else (none)))) else (none)) else (some x3)
def spec_ModelMeans.f (k : Nat) (l0 : List (S28)) : Option ((List (S28))) := spec_ModelMeans.l0 k l0 ([] : List (S28)) 0
theorem spec_ModelMeans.mono_l : ∀ k, (∀ y0 y1 y2, LeO (spec_ModelMeans.l0 k y0 y1 y2) (spec_ModelMeans.l0 (k + 1) y0 y1 y2))
 | 0 => fun _ _ _ r h => by simp [spec_ModelMeans.l0] at h
 | k + 1 => by
  have ih0 := spec_ModelMeans.mono_l k
  ·intro y0 y1 y2
   unfold spec_ModelMeans.l0
   repeat' first
   | (with_reducible exact ih0 _ _ _)
   | (with_reducible exact spec_Escaped.mono _ _)
   | (with_reducible exact LeO.refl _)
   | (with_reducible exact LeO.none _)
   | (with_reducible refine LeO.ite ?_ ?_)
   | (with_reducible refine LeO.bind ?_ (fun _ => ?_))
   | exact ih0 _ _ _
   | exact spec_Escaped.mono _ _
   | exact LeO.none _
   | refine LeO.ite ?_ ?_
   | refine LeO.bind ?_ (fun _ => ?_)
theorem spec_ModelMeans.mono : ∀ a0 k, LeO (spec_ModelMeans.f k a0) (spec_ModelMeans.f (k + 1) a0) := by
 intro a0 k
 have ih0 := spec_ModelMeans.mono_l k
 unfold spec_ModelMeans.f
 repeat' first
   | (with_reducible exact ih0 _ _ _)
   | (with_reducible exact spec_Escaped.mono _ _)
   | (with_reducible exact LeO.refl _)
   | (with_reducible exact LeO.none _)
   | (with_reducible refine LeO.ite ?_ ?_)
   | (with_reducible refine LeO.bind ?_ (fun _ => ?_))
   | exact ih0 _ _ _
   | exact spec_Escaped.mono _ _
   | exact LeO.none _
   | refine LeO.ite ?_ ?_
   | refine LeO.bind ?_ (fun _ => ?_)
set_option maxHeartbeats 8000000 in
set_option maxRecDepth 100000 in
theorem spec_ModelMeans.calls (k : Nat) (A0 : Option Addr) (c0 : Nat) (l0 : List (S28)) (r : List (S28)) (w : World) (hr0 : Kd.C k28 w A0 l0.length l0) (hc0 : l0.length ≤ c0) (h : spec_ModelMeans.f k l0 = some r) :
  Calls Tryz.prog 15 #[.slice A0 l0.length c0] w fun e w' => ∃ v0_ : Value, e = .returned (v0_) ∧ Kd.R k28 28 w' w.heap.size (fun _ => True) v0_ r ∧ Below w.heap.size w w' := by
 have hu28 := Tryz.underlying28
 have HR0 := Aside0.mk hr0
 have HC0 := Aside0.mk hc0
 clear hr0 hc0
 have HB := Aside0.mk (Below.refl w.heap.size w)
 have H : (spec_ModelMeans.l0 k l0 ([] : List (S28)) 0) = some r := h
 clear h
 have H' := Aside0.mk H
 clear H
 go_enter Tryz.func15, Tryz.ntmps15
 go_wp2
 go_loopg [3, 4] k (fun kq v3 v4 w' => ∃ (x3_1 : List (S28)) (x4_1 : Int), v4 = .int .i64 x4_1 ∧ Aside0 (spec_ModelMeans.l0 kq l0 x3_1 x4_1 = some r) ∧ Aside0 (kq ≤ k) ∧ Aside0 (Kd.R k28 28 w' w.heap.size (fun _ => True) v3 x3_1) ∧ Aside0 (Below w.heap.size w w'))
 case atStart => exact ⟨(([] : List (S28))), (0), orf, H', ⟨Nat.le_refl _⟩, ⟨by first | exact Kd.R_nil _ _ _ _ _ | exact Kd.N_nil _ _ _ _ _ | exact Kd.V_nil _ _ _ _ _ | exact Kd.Q_nil _ _ _ _ _ | exact Kd.S_nil _ _ _ _ _⟩, ⟨by repeat (first | (with_reducible first | exact HB.out | apply below_alloc | apply pw_below_drewN | apply below_drew1) | exact HB.out)⟩⟩
 case round =>
  clear H'
  try clear c1
  obtain ⟨x3_1, x4_1, rfl, HA, HK1, HO_3, HB⟩ := hrel
  cases gk with
  | zero => exact absurd HA.out (by simp [spec_ModelMeans.l0])
  | succ k1 =>
   have H := HA.out
   clear HA
   simp only [spec_ModelMeans.l0] at H
   by_cases c2 : x4_1 < (l0.length : Int)
   ·rw [if_pos c2] at H
    have c2b0 : decide (x4_1 < (l0.length : Int)) = true := decide_eq_true c2
    clear c2
    by_cases c3 : 0 ≤ x4_1
    ·rw [if_pos c3] at H
     have c3b0 : decide (0 ≤ x4_1) = true := decide_eq_true c3
     clear c3
     by_cases c4 : ((rd_T28 l0 x4_1).f0).toList = ([101] : List UInt8)
     ·rw [if_pos c4] at H
      have c4b0 : (((rd_T28 l0 x4_1).f0).toList == ([101] : List UInt8)) = true := beq_iff_eq.mpr c4
      have c4b1 : (((rd_T28 l0 x4_1).f0).toList != ([101] : List UInt8)) = false := bne_eq_false_iff_eq.mpr c4
      clear c4
      replace H := Option.bind_eq_some_iff.mp H
      obtain ⟨t205, A50, H⟩ := H
      replace H : (if x3_1.length < 2932031007402 then (spec_ModelMeans.l0 k1 l0 (x3_1 ++ [(⟨(rd_T28 l0 x4_1).f0, (rd_T28 l0 x4_1).f1, t205⟩ : S28)]) (wrap64 (x4_1 + 1))) else (none)) = some r := H
      have A5 := Aside0.mk A50
      clear A50
      by_cases c6 : x3_1.length < 2932031007402
      ·rw [if_pos c6] at H
       have LMc6 := Aside0.mk c6
       clear c6
       obtain ⟨y206, hy206⟩ : ∃ y_ : List (S28), y_ = (x3_1 ++ [(⟨(rd_T28 l0 x4_1).f0, (rd_T28 l0 x4_1).f1, t205⟩ : S28)]) := ⟨_, rfl⟩
       replace H : (spec_ModelMeans.l0 k1 l0 y206 (wrap64 (x4_1 + 1))) = some r := by first | (rw [hy206]; with_reducible exact H) | (have H2_ := (Option.bind_some _ _).symm.trans H; rw [hy206]; with_reducible exact H2_) | (have H2_ := (Option.bind_some _ _).symm.trans H; with_reducible exact H2_) | with_reducible exact H | (rw [hy206]; exact H) | exact H
       have Ny206 := Aside0.mk hy206
       clear hy206
       have H' := Aside0.mk H
       clear H
       have p203 : 0 ≤ (x4_1 : Int) := odt
       have q203 : x4_1 < (l0.length : Int) := odt
       obtain ⟨ad203, e203, hx203_0, hx203_1, hx203_2⟩ := at_T28 HR0.out x4_1 p203 q203
       cases e203
       replace hx203_0 := (HB.out.cell (World.block_lt_of_cell? w _ hx203_0)).trans hx203_0
       replace hx203_1 := (HB.out.cell (World.block_lt_of_cell? w _ hx203_1)).trans hx203_1
       replace hx203_2 := (HB.out.cell (World.block_lt_of_cell? w _ hx203_2)).trans hx203_2
       replace p203 := eq_true p203
       replace q203 := eq_true q203
       go_wp2_with (first | ((with_reducible refine gate_dst (N := 5) rfl ?_); refine box_event ?hg (N := 5) ?hd (cs := #[.string (⟨#[]⟩ : ByteArray), .string (⟨#[]⟩ : ByteArray), .string (⟨#[]⟩ : ByteArray)]) (t := 28) ?hr ?_; (case hd => rfl); (case hg => rfl); (case hr => first | (go_simp; done) | (go_simp; rfl)); intro gb204 hg w7 hbox hb; have n0_ := Aside0.mk (Kd.R_below (Kd.R_elderB (by (with_reducible repeat (first | apply Kd.R_alloc | apply Kd.R_drewN | apply Kd.R_drew)); exact HO_3.out) gb204 (Nat.le_of_eq hg.symm)) hb); have n1_ := Aside0.mk (below_step (by repeat (first | (with_reducible first | exact HB.out | apply below_alloc | apply pw_below_drewN | apply below_drew1) | exact HB.out)) hb); have n2_ := Aside0.mk (hbox); have n3_ := Aside0.mk ((by rw [hg]; exact (below_size (by repeat (first | (with_reducible first | exact HB.out | apply below_alloc | apply pw_below_drewN | apply below_drew1) | exact HB.out))) : w.heap.size ≤ gb204)); have n4_ := Aside0.mk ((by rw [hg]; exact (below_size (by repeat (first | (with_reducible first | exact HB.out | apply below_alloc | apply pw_below_drewN | apply below_drew1) | exact HB.out))) : w.heap.size ≤ gb204)); clear HO_3; clear HB; have HO_3 := n0_; have HB := n1_; have BK204 := n2_; have GW204 := n3_; have GE204 := n4_; clear n0_ n1_ n2_ n3_ n4_; clear hb hbox hg; have hcz8_0 : w7.cell? ⟨gb204, 0, none⟩ = some (.string (⟨#[]⟩ : ByteArray)) := (blk_cell BK204.out 0).trans rfl; have hcz8_1 : w7.cell? ⟨gb204, 1, none⟩ = some (.string (⟨#[]⟩ : ByteArray)) := (blk_cell BK204.out 1).trans rfl; have hcz8_2 : w7.cell? ⟨gb204, 2, none⟩ = some (.string (⟨#[]⟩ : ByteArray)) := (blk_cell BK204.out 2).trans rfl; have hfz8_0 := blk_frozen BK204.out 0; have hfz8_1 := blk_frozen BK204.out 1; have hfz8_2 := blk_frozen BK204.out 2; have hcw8_2 : (((w7.setCell ⟨gb204, 0, none⟩ (.string (rd_T28 l0 x4_1).f0)).setCell ⟨gb204, 1, none⟩ (.string (rd_T28 l0 x4_1).f1)).setCell ⟨gb204, 2, none⟩ (.string (rd_T28 l0 x4_1).f2)).cell? ⟨gb204, 2, none⟩ = some (.string (rd_T28 l0 x4_1).f2) := World.cell?_setCell_same _ _ _ ((World.cell?_setCell_other _ _ _ _ (by simp)).trans ((World.cell?_setCell_other _ _ _ _ (by simp)).trans hcz8_2))) | ((with_reducible refine gate_callee (f := 30) rfl ?_); refine goesL_ (some 26) rfl rfl Tryz.func30 (by kernel_rfl) rfl #[.string ((rd_T28 l0 x4_1).f2)] rfl (by (try simp only [List.map_toArray, List.map_cons, List.map_nil]); first | done | rfl | (simp only [List.length_drop, List.length_take]; rfl)) ?_; (with_reducible refine (spec_Escaped.calls k1 ((rd_T28 l0 x4_1).f2) t205 _ A5.out).mono ?_); rintro e w' ⟨rfl, ⟨nd, rfl⟩⟩; refine ⟨_, rfl, ?_⟩) | ((with_reducible refine gate_builtin (b := .append) (xs := #[.tmp 28, .tmp 30]) rfl ?_); at_builtin; refine Kd.R_append k28 (w0 := w) w.heap.size rfl (.tmp 28) (.tmp 30) 22 28 (.agg #[(.string ⟨#[]⟩), (.string ⟨#[]⟩), (.string ⟨#[]⟩)]) 48 rfl Tryz.underlying22 info28 rfl (by decide) (by omega) u3 x3_1 (⟨(rd_T28 l0 x4_1).f0, (rd_T28 l0 x4_1).f1, t205⟩ : S28) [.string ((rd_T28 l0 x4_1).f0), .string ((rd_T28 l0 x4_1).f1), .string t205] (fun k_ => k_ ≠ gb204) (fun _ => False) rfl (by first | (go_simp; done) | (go_simp; rfl)) ?aP (fun _ hk => hk.elim) ?aF ?aO ?aB ?aS ?aL ?_; (case aP => exact k28_mkM _ _ _ (⟨(rd_T28 l0 x4_1).f0, (rd_T28 l0 x4_1).f1, t205⟩ : S28)); (case aB => exact (by repeat (first | (with_reducible first | exact HB.out | apply below_alloc | apply pw_below_drewN | apply below_drew1 | refine below_set ?_ GE204.out) | exact HB.out))); (case aF => exact (fun k_ hk => Kd.freshB (g := gb204) (o := .cells #[.string ((rd_T28 l0 x4_1).f0), .string ((rd_T28 l0 x4_1).f1), .string t205] 28 (0, 0)) (by (with_reducible repeat (first | refine blk_drewN ?_ _ | refine blk_drew ?_ | refine blk_alloc ?_ _)); refine blk_put (cs := #[.string ((rd_T28 l0 x4_1).f0), .string ((rd_T28 l0 x4_1).f1), .string ((rd_T28 l0 x4_1).f2)]) ?_ 2 _ rfl; (with_reducible repeat (first | refine blk_drewN ?_ _ | refine blk_drew ?_ | refine blk_alloc ?_ _)); refine blk_put (cs := #[.string ((rd_T28 l0 x4_1).f0), .string ((rd_T28 l0 x4_1).f1), .string (⟨#[]⟩ : ByteArray)]) ?_ 2 _ rfl; (with_reducible repeat (first | refine blk_drewN ?_ _ | refine blk_drew ?_ | refine blk_alloc ?_ _)); refine blk_put (cs := #[.string ((rd_T28 l0 x4_1).f0), .string (⟨#[]⟩ : ByteArray), .string (⟨#[]⟩ : ByteArray)]) ?_ 1 _ rfl; (with_reducible repeat (first | refine blk_drewN ?_ _ | refine blk_drew ?_ | refine blk_alloc ?_ _)); refine blk_put (cs := #[.string (⟨#[]⟩ : ByteArray), .string (⟨#[]⟩ : ByteArray), .string (⟨#[]⟩ : ByteArray)]) ?_ 0 _ rfl; (with_reducible repeat (first | refine blk_drewN ?_ _ | refine blk_drew ?_ | refine blk_alloc ?_ _)); exact BK204.out) k_ hk)); (case aO => exact (by (with_reducible repeat (first | apply Kd.R_alloc | apply Kd.R_drewN | apply Kd.R_drew)); exact Kd.R_mono (Kd.R_far (p := ⟨gb204, 2, none⟩) (Kd.R_far (p := ⟨gb204, 2, none⟩) (Kd.R_far (p := ⟨gb204, 1, none⟩) (Kd.R_far (p := ⟨gb204, 0, none⟩) (Kd.R_mono HO_3.out (fun k_ hk => (⟨hk, hk.2⟩ : _ ∧ k_ ≠ gb204))) (fun _ hk => hk.2) (.string ((rd_T28 l0 x4_1).f0))) (fun _ hk => hk.2) (.string ((rd_T28 l0 x4_1).f1))) (fun _ hk => hk.2) (.string ((rd_T28 l0 x4_1).f2))) (fun _ hk => hk.2) (.string t205)) (fun _ hk => hk.1.2))); (case aS => exact (below_size (by repeat (first | (with_reducible first | exact HB.out | apply below_alloc | apply pw_below_drewN | apply below_drew1 | refine below_set ?_ GE204.out) | exact HB.out)))); (case aL => have := LMc6.out; omega); intro v207 w9 ho hb hg hat; rw [← Ny206.out] at ho; have n0_ := Aside0.mk (blk_grown (g := gb204) (o := .cells #[.string ((rd_T28 l0 x4_1).f0), .string ((rd_T28 l0 x4_1).f1), .string t205] 28 (0, 0)) (by (with_reducible repeat (first | refine blk_drewN ?_ _ | refine blk_drew ?_ | refine blk_alloc ?_ _)); refine blk_put (cs := #[.string ((rd_T28 l0 x4_1).f0), .string ((rd_T28 l0 x4_1).f1), .string ((rd_T28 l0 x4_1).f2)]) ?_ 2 _ rfl; (with_reducible repeat (first | refine blk_drewN ?_ _ | refine blk_drew ?_ | refine blk_alloc ?_ _)); refine blk_put (cs := #[.string ((rd_T28 l0 x4_1).f0), .string ((rd_T28 l0 x4_1).f1), .string (⟨#[]⟩ : ByteArray)]) ?_ 2 _ rfl; (with_reducible repeat (first | refine blk_drewN ?_ _ | refine blk_drew ?_ | refine blk_alloc ?_ _)); refine blk_put (cs := #[.string ((rd_T28 l0 x4_1).f0), .string (⟨#[]⟩ : ByteArray), .string (⟨#[]⟩ : ByteArray)]) ?_ 1 _ rfl; (with_reducible repeat (first | refine blk_drewN ?_ _ | refine blk_drew ?_ | refine blk_alloc ?_ _)); refine blk_put (cs := #[.string (⟨#[]⟩ : ByteArray), .string (⟨#[]⟩ : ByteArray), .string (⟨#[]⟩ : ByteArray)]) ?_ 0 _ rfl; (with_reducible repeat (first | refine blk_drewN ?_ _ | refine blk_drew ?_ | refine blk_alloc ?_ _)); exact BK204.out) hg (Kd.R_away HO_3.out (fun _ hk => hk.2))); have n1_ := Aside0.mk (hb); have n2_ := Aside0.mk (ho); clear BK204; clear HB; clear HO_3; have BK204 := n0_; have HB := n1_; have HO208 := n2_; clear n0_ n1_ n2_; clear ho hb hg hat))
       go_roundg k1
       case measure => have := HK1.out; omega
       case rel => exact ⟨(y206), (wrap64 (x4_1 + 1)), orf, H', ⟨by have := HK1.out; omega⟩, ⟨by (with_reducible repeat (first | apply Kd.R_alloc | apply Kd.R_drewN | apply Kd.R_drew)); exact Kd.R_mono HO208.out (fun _ hk => trivial)⟩, ⟨by repeat (first | (with_reducible first | exact HB.out | apply below_alloc | apply pw_below_drewN | apply below_drew1 | refine below_set ?_ GE204.out) | exact HB.out)⟩⟩
      ·rw [if_neg c6] at H
       exact absurd H (by simp)
     ·rw [if_neg c4] at H
      have c4b0 : (((rd_T28 l0 x4_1).f0).toList == ([101] : List UInt8)) = false := beq_eq_false_iff_ne.mpr c4
      have c4b1 : (((rd_T28 l0 x4_1).f0).toList != ([101] : List UInt8)) = true := bne_iff_ne.mpr c4
      by_cases c10 : ((rd_T28 l0 x4_1).f0).toList = ([109] : List UInt8)
      ·rw [if_pos c10] at H
       have c10b0 : (((rd_T28 l0 x4_1).f0).toList == ([109] : List UInt8)) = true := beq_iff_eq.mpr c10
       have c10b1 : (((rd_T28 l0 x4_1).f0).toList != ([109] : List UInt8)) = false := bne_eq_false_iff_eq.mpr c10
       clear c10
       replace H := Option.bind_eq_some_iff.mp H
       obtain ⟨t209, A110, H⟩ := H
       replace H : (if x3_1.length < 2932031007402 then (spec_ModelMeans.l0 k1 l0 (x3_1 ++ [(⟨(rd_T28 l0 x4_1).f0, (rd_T28 l0 x4_1).f1, t209⟩ : S28)]) (wrap64 (x4_1 + 1))) else (none)) = some r := H
       have A11 := Aside0.mk A110
       clear A110
       by_cases c12 : x3_1.length < 2932031007402
       ·rw [if_pos c12] at H
        have LMc12 := Aside0.mk c12
        clear c12
        obtain ⟨y210, hy210⟩ : ∃ y_ : List (S28), y_ = (x3_1 ++ [(⟨(rd_T28 l0 x4_1).f0, (rd_T28 l0 x4_1).f1, t209⟩ : S28)]) := ⟨_, rfl⟩
        replace H : (spec_ModelMeans.l0 k1 l0 y210 (wrap64 (x4_1 + 1))) = some r := by first | (rw [hy210]; with_reducible exact H) | (have H2_ := (Option.bind_some _ _).symm.trans H; rw [hy210]; with_reducible exact H2_) | (have H2_ := (Option.bind_some _ _).symm.trans H; with_reducible exact H2_) | with_reducible exact H | (rw [hy210]; exact H) | exact H
        have Ny210 := Aside0.mk hy210
        clear hy210
        have H' := Aside0.mk H
        clear H
        have p203 : 0 ≤ (x4_1 : Int) := odt
        have q203 : x4_1 < (l0.length : Int) := odt
        obtain ⟨ad203, e203, hx203_0, hx203_1, hx203_2⟩ := at_T28 HR0.out x4_1 p203 q203
        cases e203
        replace hx203_0 := (HB.out.cell (World.block_lt_of_cell? w _ hx203_0)).trans hx203_0
        replace hx203_1 := (HB.out.cell (World.block_lt_of_cell? w _ hx203_1)).trans hx203_1
        replace hx203_2 := (HB.out.cell (World.block_lt_of_cell? w _ hx203_2)).trans hx203_2
        replace p203 := eq_true p203
        replace q203 := eq_true q203
        go_wp2_with (first | ((with_reducible refine gate_dst (N := 5) rfl ?_); refine box_event ?hg (N := 5) ?hd (cs := #[.string (⟨#[]⟩ : ByteArray), .string (⟨#[]⟩ : ByteArray), .string (⟨#[]⟩ : ByteArray)]) (t := 28) ?hr ?_; (case hd => rfl); (case hg => rfl); (case hr => first | (go_simp; done) | (go_simp; rfl)); intro gb204 hg w13 hbox hb; have n0_ := Aside0.mk (Kd.R_below (Kd.R_elderB (by (with_reducible repeat (first | apply Kd.R_alloc | apply Kd.R_drewN | apply Kd.R_drew)); exact HO_3.out) gb204 (Nat.le_of_eq hg.symm)) hb); have n1_ := Aside0.mk (below_step (by repeat (first | (with_reducible first | exact HB.out | apply below_alloc | apply pw_below_drewN | apply below_drew1) | exact HB.out)) hb); have n2_ := Aside0.mk (hbox); have n3_ := Aside0.mk ((by rw [hg]; exact (below_size (by repeat (first | (with_reducible first | exact HB.out | apply below_alloc | apply pw_below_drewN | apply below_drew1) | exact HB.out))) : w.heap.size ≤ gb204)); have n4_ := Aside0.mk ((by rw [hg]; exact (below_size (by repeat (first | (with_reducible first | exact HB.out | apply below_alloc | apply pw_below_drewN | apply below_drew1) | exact HB.out))) : w.heap.size ≤ gb204)); clear HO_3; clear HB; have HO_3 := n0_; have HB := n1_; have BK204 := n2_; have GW204 := n3_; have GE204 := n4_; clear n0_ n1_ n2_ n3_ n4_; clear hb hbox hg; have hcz14_0 : w13.cell? ⟨gb204, 0, none⟩ = some (.string (⟨#[]⟩ : ByteArray)) := (blk_cell BK204.out 0).trans rfl; have hcz14_1 : w13.cell? ⟨gb204, 1, none⟩ = some (.string (⟨#[]⟩ : ByteArray)) := (blk_cell BK204.out 1).trans rfl; have hcz14_2 : w13.cell? ⟨gb204, 2, none⟩ = some (.string (⟨#[]⟩ : ByteArray)) := (blk_cell BK204.out 2).trans rfl; have hfz14_0 := blk_frozen BK204.out 0; have hfz14_1 := blk_frozen BK204.out 1; have hfz14_2 := blk_frozen BK204.out 2; have hcw14_2 : (((w13.setCell ⟨gb204, 0, none⟩ (.string (rd_T28 l0 x4_1).f0)).setCell ⟨gb204, 1, none⟩ (.string (rd_T28 l0 x4_1).f1)).setCell ⟨gb204, 2, none⟩ (.string (rd_T28 l0 x4_1).f2)).cell? ⟨gb204, 2, none⟩ = some (.string (rd_T28 l0 x4_1).f2) := World.cell?_setCell_same _ _ _ ((World.cell?_setCell_other _ _ _ _ (by simp)).trans ((World.cell?_setCell_other _ _ _ _ (by simp)).trans hcz14_2))) | ((with_reducible refine gate_callee (f := 30) rfl ?_); refine goesL_ (some 26) rfl rfl Tryz.func30 (by kernel_rfl) rfl #[.string ((rd_T28 l0 x4_1).f2)] rfl (by (try simp only [List.map_toArray, List.map_cons, List.map_nil]); first | done | rfl | (simp only [List.length_drop, List.length_take]; rfl)) ?_; (with_reducible refine (spec_Escaped.calls k1 ((rd_T28 l0 x4_1).f2) t209 _ A11.out).mono ?_); rintro e w' ⟨rfl, ⟨nd, rfl⟩⟩; refine ⟨_, rfl, ?_⟩) | ((with_reducible refine gate_builtin (b := .append) (xs := #[.tmp 28, .tmp 30]) rfl ?_); at_builtin; refine Kd.R_append k28 (w0 := w) w.heap.size rfl (.tmp 28) (.tmp 30) 22 28 (.agg #[(.string ⟨#[]⟩), (.string ⟨#[]⟩), (.string ⟨#[]⟩)]) 48 rfl Tryz.underlying22 info28 rfl (by decide) (by omega) u3 x3_1 (⟨(rd_T28 l0 x4_1).f0, (rd_T28 l0 x4_1).f1, t209⟩ : S28) [.string ((rd_T28 l0 x4_1).f0), .string ((rd_T28 l0 x4_1).f1), .string t209] (fun k_ => k_ ≠ gb204) (fun _ => False) rfl (by first | (go_simp; done) | (go_simp; rfl)) ?aP (fun _ hk => hk.elim) ?aF ?aO ?aB ?aS ?aL ?_; (case aP => exact k28_mkM _ _ _ (⟨(rd_T28 l0 x4_1).f0, (rd_T28 l0 x4_1).f1, t209⟩ : S28)); (case aB => exact (by repeat (first | (with_reducible first | exact HB.out | apply below_alloc | apply pw_below_drewN | apply below_drew1 | refine below_set ?_ GE204.out) | exact HB.out))); (case aF => exact (fun k_ hk => Kd.freshB (g := gb204) (o := .cells #[.string ((rd_T28 l0 x4_1).f0), .string ((rd_T28 l0 x4_1).f1), .string t209] 28 (0, 0)) (by (with_reducible repeat (first | refine blk_drewN ?_ _ | refine blk_drew ?_ | refine blk_alloc ?_ _)); refine blk_put (cs := #[.string ((rd_T28 l0 x4_1).f0), .string ((rd_T28 l0 x4_1).f1), .string ((rd_T28 l0 x4_1).f2)]) ?_ 2 _ rfl; (with_reducible repeat (first | refine blk_drewN ?_ _ | refine blk_drew ?_ | refine blk_alloc ?_ _)); refine blk_put (cs := #[.string ((rd_T28 l0 x4_1).f0), .string ((rd_T28 l0 x4_1).f1), .string (⟨#[]⟩ : ByteArray)]) ?_ 2 _ rfl; (with_reducible repeat (first | refine blk_drewN ?_ _ | refine blk_drew ?_ | refine blk_alloc ?_ _)); refine blk_put (cs := #[.string ((rd_T28 l0 x4_1).f0), .string (⟨#[]⟩ : ByteArray), .string (⟨#[]⟩ : ByteArray)]) ?_ 1 _ rfl; (with_reducible repeat (first | refine blk_drewN ?_ _ | refine blk_drew ?_ | refine blk_alloc ?_ _)); refine blk_put (cs := #[.string (⟨#[]⟩ : ByteArray), .string (⟨#[]⟩ : ByteArray), .string (⟨#[]⟩ : ByteArray)]) ?_ 0 _ rfl; (with_reducible repeat (first | refine blk_drewN ?_ _ | refine blk_drew ?_ | refine blk_alloc ?_ _)); exact BK204.out) k_ hk)); (case aO => exact (by (with_reducible repeat (first | apply Kd.R_alloc | apply Kd.R_drewN | apply Kd.R_drew)); exact Kd.R_mono (Kd.R_far (p := ⟨gb204, 2, none⟩) (Kd.R_far (p := ⟨gb204, 2, none⟩) (Kd.R_far (p := ⟨gb204, 1, none⟩) (Kd.R_far (p := ⟨gb204, 0, none⟩) (Kd.R_mono HO_3.out (fun k_ hk => (⟨hk, hk.2⟩ : _ ∧ k_ ≠ gb204))) (fun _ hk => hk.2) (.string ((rd_T28 l0 x4_1).f0))) (fun _ hk => hk.2) (.string ((rd_T28 l0 x4_1).f1))) (fun _ hk => hk.2) (.string ((rd_T28 l0 x4_1).f2))) (fun _ hk => hk.2) (.string t209)) (fun _ hk => hk.1.2))); (case aS => exact (below_size (by repeat (first | (with_reducible first | exact HB.out | apply below_alloc | apply pw_below_drewN | apply below_drew1 | refine below_set ?_ GE204.out) | exact HB.out)))); (case aL => have := LMc12.out; omega); intro v211 w15 ho hb hg hat; rw [← Ny210.out] at ho; have n0_ := Aside0.mk (blk_grown (g := gb204) (o := .cells #[.string ((rd_T28 l0 x4_1).f0), .string ((rd_T28 l0 x4_1).f1), .string t209] 28 (0, 0)) (by (with_reducible repeat (first | refine blk_drewN ?_ _ | refine blk_drew ?_ | refine blk_alloc ?_ _)); refine blk_put (cs := #[.string ((rd_T28 l0 x4_1).f0), .string ((rd_T28 l0 x4_1).f1), .string ((rd_T28 l0 x4_1).f2)]) ?_ 2 _ rfl; (with_reducible repeat (first | refine blk_drewN ?_ _ | refine blk_drew ?_ | refine blk_alloc ?_ _)); refine blk_put (cs := #[.string ((rd_T28 l0 x4_1).f0), .string ((rd_T28 l0 x4_1).f1), .string (⟨#[]⟩ : ByteArray)]) ?_ 2 _ rfl; (with_reducible repeat (first | refine blk_drewN ?_ _ | refine blk_drew ?_ | refine blk_alloc ?_ _)); refine blk_put (cs := #[.string ((rd_T28 l0 x4_1).f0), .string (⟨#[]⟩ : ByteArray), .string (⟨#[]⟩ : ByteArray)]) ?_ 1 _ rfl; (with_reducible repeat (first | refine blk_drewN ?_ _ | refine blk_drew ?_ | refine blk_alloc ?_ _)); refine blk_put (cs := #[.string (⟨#[]⟩ : ByteArray), .string (⟨#[]⟩ : ByteArray), .string (⟨#[]⟩ : ByteArray)]) ?_ 0 _ rfl; (with_reducible repeat (first | refine blk_drewN ?_ _ | refine blk_drew ?_ | refine blk_alloc ?_ _)); exact BK204.out) hg (Kd.R_away HO_3.out (fun _ hk => hk.2))); have n1_ := Aside0.mk (hb); have n2_ := Aside0.mk (ho); clear BK204; clear HB; clear HO_3; have BK204 := n0_; have HB := n1_; have HO212 := n2_; clear n0_ n1_ n2_; clear ho hb hg hat))
        go_roundg k1
        case measure => have := HK1.out; omega
        case rel => exact ⟨(y210), (wrap64 (x4_1 + 1)), orf, H', ⟨by have := HK1.out; omega⟩, ⟨by (with_reducible repeat (first | apply Kd.R_alloc | apply Kd.R_drewN | apply Kd.R_drew)); exact Kd.R_mono HO212.out (fun _ hk => trivial)⟩, ⟨by repeat (first | (with_reducible first | exact HB.out | apply below_alloc | apply pw_below_drewN | apply below_drew1 | refine below_set ?_ GE204.out) | exact HB.out)⟩⟩
       ·rw [if_neg c12] at H
        exact absurd H (by simp)
      ·rw [if_neg c10] at H
       have c10b0 : (((rd_T28 l0 x4_1).f0).toList == ([109] : List UInt8)) = false := beq_eq_false_iff_ne.mpr c10
       have c10b1 : (((rd_T28 l0 x4_1).f0).toList != ([109] : List UInt8)) = true := bne_iff_ne.mpr c10
       by_cases c16 : x3_1.length < 2932031007402
       ·rw [if_pos c16] at H
        have LMc16 := Aside0.mk c16
        clear c16
        obtain ⟨y213, hy213⟩ : ∃ y_ : List (S28), y_ = (x3_1 ++ [(⟨(rd_T28 l0 x4_1).f0, (rd_T28 l0 x4_1).f1, (rd_T28 l0 x4_1).f2⟩ : S28)]) := ⟨_, rfl⟩
        replace H : (spec_ModelMeans.l0 k1 l0 y213 (wrap64 (x4_1 + 1))) = some r := by first | (rw [hy213]; with_reducible exact H) | (have H2_ := (Option.bind_some _ _).symm.trans H; rw [hy213]; with_reducible exact H2_) | (have H2_ := (Option.bind_some _ _).symm.trans H; with_reducible exact H2_) | with_reducible exact H | (rw [hy213]; exact H) | exact H
        have Ny213 := Aside0.mk hy213
        clear hy213
        have H' := Aside0.mk H
        clear H
        have p203 : 0 ≤ (x4_1 : Int) := odt
        have q203 : x4_1 < (l0.length : Int) := odt
        obtain ⟨ad203, e203, hx203_0, hx203_1, hx203_2⟩ := at_T28 HR0.out x4_1 p203 q203
        cases e203
        replace hx203_0 := (HB.out.cell (World.block_lt_of_cell? w _ hx203_0)).trans hx203_0
        replace hx203_1 := (HB.out.cell (World.block_lt_of_cell? w _ hx203_1)).trans hx203_1
        replace hx203_2 := (HB.out.cell (World.block_lt_of_cell? w _ hx203_2)).trans hx203_2
        replace p203 := eq_true p203
        replace q203 := eq_true q203
        go_wp2_with (first | ((with_reducible refine gate_dst (N := 5) rfl ?_); refine box_event ?hg (N := 5) ?hd (cs := #[.string (⟨#[]⟩ : ByteArray), .string (⟨#[]⟩ : ByteArray), .string (⟨#[]⟩ : ByteArray)]) (t := 28) ?hr ?_; (case hd => rfl); (case hg => rfl); (case hr => first | (go_simp; done) | (go_simp; rfl)); intro gb204 hg w17 hbox hb; have n0_ := Aside0.mk (Kd.R_below (Kd.R_elderB (by (with_reducible repeat (first | apply Kd.R_alloc | apply Kd.R_drewN | apply Kd.R_drew)); exact HO_3.out) gb204 (Nat.le_of_eq hg.symm)) hb); have n1_ := Aside0.mk (below_step (by repeat (first | (with_reducible first | exact HB.out | apply below_alloc | apply pw_below_drewN | apply below_drew1) | exact HB.out)) hb); have n2_ := Aside0.mk (hbox); have n3_ := Aside0.mk ((by rw [hg]; exact (below_size (by repeat (first | (with_reducible first | exact HB.out | apply below_alloc | apply pw_below_drewN | apply below_drew1) | exact HB.out))) : w.heap.size ≤ gb204)); have n4_ := Aside0.mk ((by rw [hg]; exact (below_size (by repeat (first | (with_reducible first | exact HB.out | apply below_alloc | apply pw_below_drewN | apply below_drew1) | exact HB.out))) : w.heap.size ≤ gb204)); clear HO_3; clear HB; have HO_3 := n0_; have HB := n1_; have BK204 := n2_; have GW204 := n3_; have GE204 := n4_; clear n0_ n1_ n2_ n3_ n4_; clear hb hbox hg; have hcz18_0 : w17.cell? ⟨gb204, 0, none⟩ = some (.string (⟨#[]⟩ : ByteArray)) := (blk_cell BK204.out 0).trans rfl; have hcz18_1 : w17.cell? ⟨gb204, 1, none⟩ = some (.string (⟨#[]⟩ : ByteArray)) := (blk_cell BK204.out 1).trans rfl; have hcz18_2 : w17.cell? ⟨gb204, 2, none⟩ = some (.string (⟨#[]⟩ : ByteArray)) := (blk_cell BK204.out 2).trans rfl; have hfz18_0 := blk_frozen BK204.out 0; have hfz18_1 := blk_frozen BK204.out 1; have hfz18_2 := blk_frozen BK204.out 2) | ((with_reducible refine gate_builtin (b := .append) (xs := #[.tmp 28, .tmp 30]) rfl ?_); at_builtin; refine Kd.R_append k28 (w0 := w) w.heap.size rfl (.tmp 28) (.tmp 30) 22 28 (.agg #[(.string ⟨#[]⟩), (.string ⟨#[]⟩), (.string ⟨#[]⟩)]) 48 rfl Tryz.underlying22 info28 rfl (by decide) (by omega) u3 x3_1 (⟨(rd_T28 l0 x4_1).f0, (rd_T28 l0 x4_1).f1, (rd_T28 l0 x4_1).f2⟩ : S28) [.string ((rd_T28 l0 x4_1).f0), .string ((rd_T28 l0 x4_1).f1), .string ((rd_T28 l0 x4_1).f2)] (fun k_ => k_ ≠ gb204) (fun _ => False) rfl (by first | (go_simp; done) | (go_simp; rfl)) ?aP (fun _ hk => hk.elim) ?aF ?aO ?aB ?aS ?aL ?_; (case aP => exact k28_mkM _ _ _ (⟨(rd_T28 l0 x4_1).f0, (rd_T28 l0 x4_1).f1, (rd_T28 l0 x4_1).f2⟩ : S28)); (case aB => exact (by repeat (first | (with_reducible first | exact HB.out | apply below_alloc | apply pw_below_drewN | apply below_drew1 | refine below_set ?_ GE204.out) | exact HB.out))); (case aF => exact (fun k_ hk => Kd.freshB (g := gb204) (o := .cells #[.string ((rd_T28 l0 x4_1).f0), .string ((rd_T28 l0 x4_1).f1), .string ((rd_T28 l0 x4_1).f2)] 28 (0, 0)) (by (with_reducible repeat (first | refine blk_drewN ?_ _ | refine blk_drew ?_ | refine blk_alloc ?_ _)); refine blk_put (cs := #[.string ((rd_T28 l0 x4_1).f0), .string ((rd_T28 l0 x4_1).f1), .string (⟨#[]⟩ : ByteArray)]) ?_ 2 _ rfl; (with_reducible repeat (first | refine blk_drewN ?_ _ | refine blk_drew ?_ | refine blk_alloc ?_ _)); refine blk_put (cs := #[.string ((rd_T28 l0 x4_1).f0), .string (⟨#[]⟩ : ByteArray), .string (⟨#[]⟩ : ByteArray)]) ?_ 1 _ rfl; (with_reducible repeat (first | refine blk_drewN ?_ _ | refine blk_drew ?_ | refine blk_alloc ?_ _)); refine blk_put (cs := #[.string (⟨#[]⟩ : ByteArray), .string (⟨#[]⟩ : ByteArray), .string (⟨#[]⟩ : ByteArray)]) ?_ 0 _ rfl; (with_reducible repeat (first | refine blk_drewN ?_ _ | refine blk_drew ?_ | refine blk_alloc ?_ _)); exact BK204.out) k_ hk)); (case aO => exact (by (with_reducible repeat (first | apply Kd.R_alloc | apply Kd.R_drewN | apply Kd.R_drew)); exact Kd.R_mono (Kd.R_far (p := ⟨gb204, 2, none⟩) (Kd.R_far (p := ⟨gb204, 1, none⟩) (Kd.R_far (p := ⟨gb204, 0, none⟩) (Kd.R_mono HO_3.out (fun k_ hk => (⟨hk, hk.2⟩ : _ ∧ k_ ≠ gb204))) (fun _ hk => hk.2) (.string ((rd_T28 l0 x4_1).f0))) (fun _ hk => hk.2) (.string ((rd_T28 l0 x4_1).f1))) (fun _ hk => hk.2) (.string ((rd_T28 l0 x4_1).f2))) (fun _ hk => hk.1.2))); (case aS => exact (below_size (by repeat (first | (with_reducible first | exact HB.out | apply below_alloc | apply pw_below_drewN | apply below_drew1 | refine below_set ?_ GE204.out) | exact HB.out)))); (case aL => have := LMc16.out; omega); intro v214 w19 ho hb hg hat; rw [← Ny213.out] at ho; have n0_ := Aside0.mk (blk_grown (g := gb204) (o := .cells #[.string ((rd_T28 l0 x4_1).f0), .string ((rd_T28 l0 x4_1).f1), .string ((rd_T28 l0 x4_1).f2)] 28 (0, 0)) (by (with_reducible repeat (first | refine blk_drewN ?_ _ | refine blk_drew ?_ | refine blk_alloc ?_ _)); refine blk_put (cs := #[.string ((rd_T28 l0 x4_1).f0), .string ((rd_T28 l0 x4_1).f1), .string (⟨#[]⟩ : ByteArray)]) ?_ 2 _ rfl; (with_reducible repeat (first | refine blk_drewN ?_ _ | refine blk_drew ?_ | refine blk_alloc ?_ _)); refine blk_put (cs := #[.string ((rd_T28 l0 x4_1).f0), .string (⟨#[]⟩ : ByteArray), .string (⟨#[]⟩ : ByteArray)]) ?_ 1 _ rfl; (with_reducible repeat (first | refine blk_drewN ?_ _ | refine blk_drew ?_ | refine blk_alloc ?_ _)); refine blk_put (cs := #[.string (⟨#[]⟩ : ByteArray), .string (⟨#[]⟩ : ByteArray), .string (⟨#[]⟩ : ByteArray)]) ?_ 0 _ rfl; (with_reducible repeat (first | refine blk_drewN ?_ _ | refine blk_drew ?_ | refine blk_alloc ?_ _)); exact BK204.out) hg (Kd.R_away HO_3.out (fun _ hk => hk.2))); have n1_ := Aside0.mk (hb); have n2_ := Aside0.mk (ho); clear BK204; clear HB; clear HO_3; have BK204 := n0_; have HB := n1_; have HO215 := n2_; clear n0_ n1_ n2_; clear ho hb hg hat))
        go_roundg k1
        case measure => have := HK1.out; omega
        case rel => exact ⟨(y213), (wrap64 (x4_1 + 1)), orf, H', ⟨by have := HK1.out; omega⟩, ⟨by (with_reducible repeat (first | apply Kd.R_alloc | apply Kd.R_drewN | apply Kd.R_drew)); exact Kd.R_mono HO215.out (fun _ hk => trivial)⟩, ⟨by repeat (first | (with_reducible first | exact HB.out | apply below_alloc | apply pw_below_drewN | apply below_drew1 | refine below_set ?_ GE204.out) | exact HB.out)⟩⟩
       ·rw [if_neg c16] at H
        exact absurd H (by simp)
    ·rw [if_neg c3] at H
     exact absurd H (by simp)
   ·rw [if_neg c2] at H
    have c2b0 : decide (x4_1 < (l0.length : Int)) = false := decide_eq_false c2
    clear c2
    obtain rfl := Option.some.inj H
    go_wp2
    go_ret
    exact ⟨_, by first | rfl | (simp [errW_none, errW_some] <;> rfl) | (simp [*, errW_none, errW_some] <;> rfl), by (with_reducible repeat (first | apply Kd.R_alloc | apply Kd.R_drewN | apply Kd.R_drew)); exact HO_3.out, by repeat (first | (with_reducible first | exact HB.out | apply below_alloc | apply pw_below_drewN | apply below_drew1) | exact HB.out)⟩

/-! ### laws_FnModelDefs: function 4 -/
def laws_FnModelDefs.f (k : Nat) (l0 : List (S28)) : Option (Bool) := (laws_zzFits19.f k l0).bind fun t216 => (if t216 = true then ((laws_modelled.f k l0).bind fun t217 => (if t217 = true then ((spec_ModelConf.f k l0).bind fun t219 => ((spec_ConfText.f k t219).bind fun t222 => ((impl_ModelDefs.f k t222).bind fun bt223 => (if bt223.2 = 0 then ((spec_ModelMeans.f k l0).bind fun t227 => ((spec_SameDefs.f k bt223.1 t227).bind fun t230 => (if t230 = true then ((laws_awakeModel.f k).bind fun t231 => (some t231)) else (some false)))) else (some false))))) else ((laws_awakeModel.f k).bind fun t218 => (some t218)))) else (some true))
theorem laws_FnModelDefs.mono : ∀ a0 k, LeO (laws_FnModelDefs.f k a0) (laws_FnModelDefs.f (k + 1) a0) := by
 intro a0 k
 unfold laws_FnModelDefs.f
 repeat' first
   | (with_reducible exact impl_ModelDefs.mono _ _)
   | (with_reducible exact laws_awakeModel.mono _)
   | (with_reducible exact laws_modelled.mono _ _)
   | (with_reducible exact laws_zzFits19.mono _ _)
   | (with_reducible exact spec_ConfText.mono _ _)
   | (with_reducible exact spec_ModelConf.mono _ _)
   | (with_reducible exact spec_ModelMeans.mono _ _)
   | (with_reducible exact spec_SameDefs.mono _ _ _)
   | (with_reducible exact LeO.refl _)
   | (with_reducible exact LeO.none _)
   | (with_reducible refine LeO.ite ?_ ?_)
   | (with_reducible refine LeO.bind ?_ (fun _ => ?_))
   | exact impl_ModelDefs.mono _ _
   | exact laws_awakeModel.mono _
   | exact laws_modelled.mono _ _
   | exact laws_zzFits19.mono _ _
   | exact spec_ConfText.mono _ _
   | exact spec_ModelConf.mono _ _
   | exact spec_ModelMeans.mono _ _
   | exact spec_SameDefs.mono _ _ _
   | exact LeO.none _
   | refine LeO.ite ?_ ?_
   | refine LeO.bind ?_ (fun _ => ?_)
set_option maxHeartbeats 8000000 in
set_option maxRecDepth 100000 in
theorem laws_FnModelDefs.calls (k : Nat) (A0 : Option Addr) (c0 : Nat) (l0 : List (S28)) (r : Bool) (w : World) (hprem : Prem w) (hr0 : Kd.C k28 w A0 l0.length l0) (hc0 : l0.length ≤ c0) (h : laws_FnModelDefs.f k l0 = some r) :
  Calls Tryz.prog 4 #[.slice A0 l0.length c0] w fun e w' => e = .returned (.bool r) ∧ Below w.heap.size w w' := by
 have HPM := Aside0.mk hprem
 clear hprem
 have HR0 := Aside0.mk hr0
 have HC0 := Aside0.mk hc0
 clear hr0 hc0
 have HB := Aside0.mk (Below.refl w.heap.size w)
 have H : ((laws_zzFits19.f k l0).bind fun t216 => (if t216 = true then ((laws_modelled.f k l0).bind fun t217 => (if t217 = true then ((spec_ModelConf.f k l0).bind fun t219 => ((spec_ConfText.f k t219).bind fun t222 => ((impl_ModelDefs.f k t222).bind fun bt223 => (if bt223.2 = 0 then ((spec_ModelMeans.f k l0).bind fun t227 => ((spec_SameDefs.f k bt223.1 t227).bind fun t230 => (if t230 = true then ((laws_awakeModel.f k).bind fun t231 => (some t231)) else (some false)))) else (some false))))) else ((laws_awakeModel.f k).bind fun t218 => (some t218)))) else (some true))) = some r := h
 clear h
 replace H := Option.bind_eq_some_iff.mp H
 obtain ⟨t216, A20, H⟩ := H
 replace H : (if t216 = true then ((laws_modelled.f k l0).bind fun t217 => (if t217 = true then ((spec_ModelConf.f k l0).bind fun t219 => ((spec_ConfText.f k t219).bind fun t222 => ((impl_ModelDefs.f k t222).bind fun bt223 => (if bt223.2 = 0 then ((spec_ModelMeans.f k l0).bind fun t227 => ((spec_SameDefs.f k bt223.1 t227).bind fun t230 => (if t230 = true then ((laws_awakeModel.f k).bind fun t231 => (some t231)) else (some false)))) else (some false))))) else ((laws_awakeModel.f k).bind fun t218 => (some t218)))) else (some true)) = some r := H
 have A2 := Aside0.mk A20
 clear A20
 by_cases c3 : t216 = true
 ·subst c3
  have H1 : ((laws_modelled.f k l0).bind fun t217 => (if t217 = true then ((spec_ModelConf.f k l0).bind fun t219 => ((spec_ConfText.f k t219).bind fun t222 => ((impl_ModelDefs.f k t222).bind fun bt223 => (if bt223.2 = 0 then ((spec_ModelMeans.f k l0).bind fun t227 => ((spec_SameDefs.f k bt223.1 t227).bind fun t230 => (if t230 = true then ((laws_awakeModel.f k).bind fun t231 => (some t231)) else (some false)))) else (some false))))) else ((laws_awakeModel.f k).bind fun t218 => (some t218)))) = some r := by rw [if_pos rfl] at H; exact H
  clear H
  have H := H1
  clear H1
  replace H := Option.bind_eq_some_iff.mp H
  obtain ⟨t217, A40, H⟩ := H
  replace H : (if t217 = true then ((spec_ModelConf.f k l0).bind fun t219 => ((spec_ConfText.f k t219).bind fun t222 => ((impl_ModelDefs.f k t222).bind fun bt223 => (if bt223.2 = 0 then ((spec_ModelMeans.f k l0).bind fun t227 => ((spec_SameDefs.f k bt223.1 t227).bind fun t230 => (if t230 = true then ((laws_awakeModel.f k).bind fun t231 => (some t231)) else (some false)))) else (some false))))) else ((laws_awakeModel.f k).bind fun t218 => (some t218))) = some r := H
  have A4 := Aside0.mk A40
  clear A40
  by_cases c5 : t217 = true
  ·subst c5
   have H1 : ((spec_ModelConf.f k l0).bind fun t219 => ((spec_ConfText.f k t219).bind fun t222 => ((impl_ModelDefs.f k t222).bind fun bt223 => (if bt223.2 = 0 then ((spec_ModelMeans.f k l0).bind fun t227 => ((spec_SameDefs.f k bt223.1 t227).bind fun t230 => (if t230 = true then ((laws_awakeModel.f k).bind fun t231 => (some t231)) else (some false)))) else (some false))))) = some r := by rw [if_pos rfl] at H; exact H
   clear H
   have H := H1
   clear H1
   replace H := Option.bind_eq_some_iff.mp H
   obtain ⟨t219, A60, H⟩ := H
   replace H : ((spec_ConfText.f k t219).bind fun t222 => ((impl_ModelDefs.f k t222).bind fun bt223 => (if bt223.2 = 0 then ((spec_ModelMeans.f k l0).bind fun t227 => ((spec_SameDefs.f k bt223.1 t227).bind fun t230 => (if t230 = true then ((laws_awakeModel.f k).bind fun t231 => (some t231)) else (some false)))) else (some false)))) = some r := H
   have A6 := Aside0.mk A60
   clear A60
   replace H := Option.bind_eq_some_iff.mp H
   obtain ⟨t222, A70, H⟩ := H
   replace H : ((impl_ModelDefs.f k t222).bind fun bt223 => (if bt223.2 = 0 then ((spec_ModelMeans.f k l0).bind fun t227 => ((spec_SameDefs.f k bt223.1 t227).bind fun t230 => (if t230 = true then ((laws_awakeModel.f k).bind fun t231 => (some t231)) else (some false)))) else (some false))) = some r := H
   have A7 := Aside0.mk A70
   clear A70
   replace H := Option.bind_eq_some_iff.mp H
   obtain ⟨⟨t223, t224⟩, A80, H⟩ := H
   replace H : (if t224 = 0 then ((spec_ModelMeans.f k l0).bind fun t227 => ((spec_SameDefs.f k t223 t227).bind fun t230 => (if t230 = true then ((laws_awakeModel.f k).bind fun t231 => (some t231)) else (some false)))) else (some false)) = some r := H
   have A8 := Aside0.mk A80
   clear A80
   by_cases c9 : t224 = 0
   ·rw [if_pos c9] at H
    have c9b0 : (t224 == 0) = true := beq_iff_eq.mpr c9
    have c9b1 : (t224 != 0) = false := bne_eq_false_iff_eq.mpr c9
    clear c9
    replace H := Option.bind_eq_some_iff.mp H
    obtain ⟨t227, A100, H⟩ := H
    replace H : ((spec_SameDefs.f k t223 t227).bind fun t230 => (if t230 = true then ((laws_awakeModel.f k).bind fun t231 => (some t231)) else (some false))) = some r := H
    have A10 := Aside0.mk A100
    clear A100
    replace H := Option.bind_eq_some_iff.mp H
    obtain ⟨t230, A110, H⟩ := H
    replace H : (if t230 = true then ((laws_awakeModel.f k).bind fun t231 => (some t231)) else (some false)) = some r := H
    have A11 := Aside0.mk A110
    clear A110
    by_cases c12 : t230 = true
    ·subst c12
     have H1 : ((laws_awakeModel.f k).bind fun t231 => (some t231)) = some r := by rw [if_pos rfl] at H; exact H
     clear H
     have H := H1
     clear H1
     replace H := Option.bind_eq_some_iff.mp H
     obtain ⟨t231, A130, H⟩ := H
     replace H : (some t231) = some r := H
     have A13 := Aside0.mk A130
     clear A130
     obtain rfl := Option.some.inj H
     go_enter Tryz.func4, Tryz.ntmps4
     go_wp2_with (first | ((with_reducible refine gate_callee (f := 8) rfl ?_); refine goesL_ (some 6) rfl rfl Tryz.func8 (by kernel_rfl) rfl #[.slice A0 l0.length c0] rfl (by (try simp only [List.map_toArray, List.map_cons, List.map_nil]); first | done | rfl | (simp only [List.length_drop, List.length_take]; rfl)) ?_; (with_reducible refine (laws_zzFits19.calls k _ _ l0 true _ ?side1 ?side2 A2.out).mono ?_); (case side1 => repeat (first | exact HR0.out | (with_reducible refine Kd.C_alloc ?_ _) | (with_reducible refine Kd.C_drewN ?_ _) | (with_reducible refine Kd.C_drew ?_))); (case side2 => exact HC0.out); rintro e w14 ⟨rfl, hb⟩; refine ⟨_, rfl, ?_⟩; have n0_ := Aside0.mk (below_step (by repeat (first | (with_reducible first | exact HB.out | apply below_alloc | apply pw_below_drewN | apply below_drew1) | exact HB.out)) hb); clear HB; have HB := n0_; clear n0_; (try clear hb); (try clear hb2); (try clear hk); (try clear hi)) | ((with_reducible refine gate_callee (f := 9) rfl ?_); refine goesL_ (some 9) rfl rfl Tryz.func9 (by kernel_rfl) rfl #[.slice A0 l0.length c0] rfl (by (try simp only [List.map_toArray, List.map_cons, List.map_nil]); first | done | rfl | (simp only [List.length_drop, List.length_take]; rfl)) ?_; (with_reducible refine (laws_modelled.calls k _ _ l0 true _ ?side1 ?side2 A4.out).mono ?_); (case side1 => repeat (first | exact (Kd.C_below HR0.out HB.out) | (with_reducible refine Kd.C_alloc ?_ _) | (with_reducible refine Kd.C_drewN ?_ _) | (with_reducible refine Kd.C_drew ?_))); (case side2 => exact HC0.out); rintro e w15 ⟨rfl, hb⟩; refine ⟨_, rfl, ?_⟩; have n0_ := Aside0.mk (below_step (by repeat (first | (with_reducible first | exact HB.out | apply below_alloc | apply pw_below_drewN | apply below_drew1) | exact HB.out)) hb); clear HB; have HB := n0_; clear n0_; (try clear hb); (try clear hb2); (try clear hk); (try clear hi)) | ((with_reducible refine gate_callee (f := 13) rfl ?_); refine goesL_ (some 14) rfl rfl Tryz.func13 (by kernel_rfl) rfl #[.slice A0 l0.length c0] rfl (by (try simp only [List.map_toArray, List.map_cons, List.map_nil]); first | done | rfl | (simp only [List.length_drop, List.length_take]; rfl)) ?_; (with_reducible refine (spec_ModelConf.calls k _ _ l0 t219 _ ?side1 ?side2 A6.out).mono ?_); (case side1 => repeat (first | exact (Kd.C_below HR0.out HB.out) | (with_reducible refine Kd.C_alloc ?_ _) | (with_reducible refine Kd.C_drewN ?_ _) | (with_reducible refine Kd.C_drew ?_))); (case side2 => exact HC0.out); rintro e w16 ⟨v220, rfl, ho0, hb⟩; refine ⟨_, rfl, ?_⟩; have n0_ := Aside0.mk (Kd.R_lower ho0 (below_size (by repeat (first | (with_reducible first | exact HB.out | apply below_alloc | apply pw_below_drewN | apply below_drew1) | exact HB.out)))); have n1_ := Aside0.mk (below_step (by repeat (first | (with_reducible first | exact HB.out | apply below_alloc | apply pw_below_drewN | apply below_drew1) | exact HB.out)) hb); clear HB; have HO221 := n0_; have HB := n1_; clear n0_ n1_; (try clear hb); (try clear hb2); (try clear hk); (try clear hi); (try clear ho0); obtain ⟨Ao17, co17, eo17⟩ := Kd.R_slice HO221.out; subst eo17) | ((with_reducible refine gate_callee (f := 12) rfl ?_); refine goesL_ (some 15) rfl rfl Tryz.func12 (by kernel_rfl) rfl #[.slice Ao17 t219.length co17] rfl (by (try simp only [List.map_toArray, List.map_cons, List.map_nil]); first | done | rfl | (simp only [List.length_drop, List.length_take]; rfl)) ?_; (with_reducible refine (spec_ConfText.calls k _ _ t219 t222 _ ?side1 ?side2 A7.out).mono ?_); (case side1 => repeat (first | exact (Kd.R_reads' HO221.out).2.2 | (with_reducible refine Kd.C_alloc ?_ _) | (with_reducible refine Kd.C_drewN ?_ _) | (with_reducible refine Kd.C_drew ?_))); (case side2 => exact (Kd.R_reads' HO221.out).2.1); rintro e w' ⟨rfl, ⟨nd, rfl⟩⟩; refine ⟨_, rfl, ?_⟩) | ((with_reducible refine gate_callee (f := 11) rfl ?_); refine goesL_ (some 16) rfl rfl Tryz.func11 (by kernel_rfl) rfl #[.string t222] rfl (by (try simp only [List.map_toArray, List.map_cons, List.map_nil]); first | done | rfl | (simp only [List.length_drop, List.length_take]; rfl)) ?_; (with_reducible refine (impl_ModelDefs.calls k t222 t223 t224 _ (by repeat (first | exact HPM.out | exact prem_below HPM.out HB.out | (with_reducible refine prem_below ?_ (Drawn0.below ⟨_, rfl⟩)))) A8.out).mono ?_); rintro e w18 ⟨v225, rfl, ⟨lp_, hp_, ho0⟩, hb⟩; have HPERM := Aside0.mk hp_; clear hp_; refine ⟨_, rfl, ?_⟩; have n0_ := Aside0.mk (Kd.R_below (by (with_reducible repeat (first | apply Kd.R_alloc | apply Kd.R_drewN | apply Kd.R_drew)); exact HO221.out) hb); have n1_ := Aside0.mk (Kd.R_lower ho0 (below_size (by repeat (first | (with_reducible first | exact HB.out | apply below_alloc | apply pw_below_drewN | apply below_drew1) | exact HB.out)))); have n2_ := Aside0.mk (below_step (by repeat (first | (with_reducible first | exact HB.out | apply below_alloc | apply pw_below_drewN | apply below_drew1) | exact HB.out)) hb); clear HO221; clear HB; have HO221 := n0_; have HO226 := n1_; have HB := n2_; clear n0_ n1_ n2_; (try clear hb); (try clear hb2); (try clear hk); (try clear hi); (try clear ho0)) | (go_at_call 15; (with_reducible refine (spec_ModelMeans.calls k _ _ l0 t227 _ ?side1 ?side2 A10.out).mono ?_); (case side1 => repeat (first | exact (Kd.C_below HR0.out HB.out) | (with_reducible refine Kd.C_alloc ?_ _) | (with_reducible refine Kd.C_drewN ?_ _) | (with_reducible refine Kd.C_drew ?_))); (case side2 => exact HC0.out); rintro e w19 ⟨v228, rfl, ho0, hb⟩; have n0_ := Aside0.mk (Kd.R_below (by (with_reducible repeat (first | apply Kd.R_alloc | apply Kd.R_drewN | apply Kd.R_drew)); exact HO221.out) hb); have n1_ := Aside0.mk (Kd.R_elder' (by (with_reducible repeat (first | apply Kd.R_alloc | apply Kd.R_drewN | apply Kd.R_drew)); exact HO226.out) (Kd.R_base ho0) hb); have n2_ := Aside0.mk (Kd.R_lower (Kd.R_new' ho0 (Kd.R_lt (by (with_reducible repeat (first | apply Kd.R_alloc | apply Kd.R_drewN | apply Kd.R_drew)); exact HO226.out))) (below_size (by repeat (first | (with_reducible first | exact HB.out | apply below_alloc | apply pw_below_drewN | apply below_drew1) | exact HB.out)))); have n3_ := Aside0.mk (below_step (by repeat (first | (with_reducible first | exact HB.out | apply below_alloc | apply pw_below_drewN | apply below_drew1) | exact HB.out)) hb); clear HO221; clear HO226; clear HB; have HO221 := n0_; have HO226 := n1_; have HO229 := n2_; have HB := n3_; clear n0_ n1_ n2_ n3_; (try clear hb); (try clear hb2); (try clear hk); (try clear hi); (try clear ho0); obtain ⟨Ao20, co20, eo20⟩ := Kd.R_slice HO226.out; subst eo20; obtain ⟨Ao21, co21, eo21⟩ := Kd.R_slice HO229.out; subst eo21) | (go_at_call 14; (with_reducible refine (spec_SameDefs.calls _ _ _ lp_ _ _ t227 true _ ?side1 ?side2 ?side3 ?side4 (same_perm (model_few A8.out) HPERM.out A11.out).choose_spec).mono ?_); (case side1 => repeat (first | exact (Kd.R_reads' HO226.out).2.2 | (with_reducible refine Kd.C_alloc ?_ _) | (with_reducible refine Kd.C_drewN ?_ _) | (with_reducible refine Kd.C_drew ?_))); (case side2 => exact (Kd.R_reads' HO226.out).2.1); (case side3 => repeat (first | exact (Kd.R_reads' HO229.out).2.2 | (with_reducible refine Kd.C_alloc ?_ _) | (with_reducible refine Kd.C_drewN ?_ _) | (with_reducible refine Kd.C_drew ?_))); (case side4 => exact (Kd.R_reads' HO229.out).2.1); rintro e w' ⟨rfl, ⟨nd, rfl⟩⟩) | (go_at_call 10; (with_reducible refine (laws_awakeModel.calls k  t231 _ (by repeat (first | exact HPM.out | exact prem_below HPM.out HB.out | (with_reducible refine prem_below ?_ (Drawn0.below ⟨_, rfl⟩)))) A13.out).mono ?_); rintro e w22 ⟨rfl, hb⟩; have n0_ := Aside0.mk (Kd.R_below (by (with_reducible repeat (first | apply Kd.R_alloc | apply Kd.R_drewN | apply Kd.R_drew)); exact HO221.out) hb); have n1_ := Aside0.mk (Kd.R_below (by (with_reducible repeat (first | apply Kd.R_alloc | apply Kd.R_drewN | apply Kd.R_drew)); exact HO226.out) hb); have n2_ := Aside0.mk (Kd.R_below (by (with_reducible repeat (first | apply Kd.R_alloc | apply Kd.R_drewN | apply Kd.R_drew)); exact HO229.out) hb); have n3_ := Aside0.mk (below_step (by repeat (first | (with_reducible first | exact HB.out | apply below_alloc | apply pw_below_drewN | apply below_drew1) | exact HB.out)) hb); clear HO221; clear HO226; clear HO229; clear HB; have HO221 := n0_; have HO226 := n1_; have HO229 := n2_; have HB := n3_; clear n0_ n1_ n2_ n3_; (try clear hb); (try clear hb2); (try clear hk); (try clear hi)))
     go_ret
     exact ⟨by first | rfl | (rw [← HPERM.out.length_eq]; rfl) | (simp [← HPERM.out.length_eq]; done) | (simp [errW_none, errW_some] <;> rfl) | (simp [*, errW_none, errW_some] <;> rfl), by repeat (first | (with_reducible first | exact HB.out | apply below_alloc | apply pw_below_drewN | apply below_drew1) | exact HB.out)⟩
    ·replace c12 := Bool.eq_false_iff.mpr c12
     subst c12
     have H1 : (some false) = some r := by rw [if_neg (show ¬ (false = true) by decide)] at H; exact H
     clear H
     have H := H1
     clear H1
     obtain rfl := Option.some.inj H
     go_enter Tryz.func4, Tryz.ntmps4
     go_wp2_with (first | ((with_reducible refine gate_callee (f := 8) rfl ?_); refine goesL_ (some 6) rfl rfl Tryz.func8 (by kernel_rfl) rfl #[.slice A0 l0.length c0] rfl (by (try simp only [List.map_toArray, List.map_cons, List.map_nil]); first | done | rfl | (simp only [List.length_drop, List.length_take]; rfl)) ?_; (with_reducible refine (laws_zzFits19.calls k _ _ l0 true _ ?side1 ?side2 A2.out).mono ?_); (case side1 => repeat (first | exact HR0.out | (with_reducible refine Kd.C_alloc ?_ _) | (with_reducible refine Kd.C_drewN ?_ _) | (with_reducible refine Kd.C_drew ?_))); (case side2 => exact HC0.out); rintro e w23 ⟨rfl, hb⟩; refine ⟨_, rfl, ?_⟩; have n0_ := Aside0.mk (below_step (by repeat (first | (with_reducible first | exact HB.out | apply below_alloc | apply pw_below_drewN | apply below_drew1) | exact HB.out)) hb); clear HB; have HB := n0_; clear n0_; (try clear hb); (try clear hb2); (try clear hk); (try clear hi)) | ((with_reducible refine gate_callee (f := 9) rfl ?_); refine goesL_ (some 9) rfl rfl Tryz.func9 (by kernel_rfl) rfl #[.slice A0 l0.length c0] rfl (by (try simp only [List.map_toArray, List.map_cons, List.map_nil]); first | done | rfl | (simp only [List.length_drop, List.length_take]; rfl)) ?_; (with_reducible refine (laws_modelled.calls k _ _ l0 true _ ?side1 ?side2 A4.out).mono ?_); (case side1 => repeat (first | exact (Kd.C_below HR0.out HB.out) | (with_reducible refine Kd.C_alloc ?_ _) | (with_reducible refine Kd.C_drewN ?_ _) | (with_reducible refine Kd.C_drew ?_))); (case side2 => exact HC0.out); rintro e w24 ⟨rfl, hb⟩; refine ⟨_, rfl, ?_⟩; have n0_ := Aside0.mk (below_step (by repeat (first | (with_reducible first | exact HB.out | apply below_alloc | apply pw_below_drewN | apply below_drew1) | exact HB.out)) hb); clear HB; have HB := n0_; clear n0_; (try clear hb); (try clear hb2); (try clear hk); (try clear hi)) | ((with_reducible refine gate_callee (f := 13) rfl ?_); refine goesL_ (some 14) rfl rfl Tryz.func13 (by kernel_rfl) rfl #[.slice A0 l0.length c0] rfl (by (try simp only [List.map_toArray, List.map_cons, List.map_nil]); first | done | rfl | (simp only [List.length_drop, List.length_take]; rfl)) ?_; (with_reducible refine (spec_ModelConf.calls k _ _ l0 t219 _ ?side1 ?side2 A6.out).mono ?_); (case side1 => repeat (first | exact (Kd.C_below HR0.out HB.out) | (with_reducible refine Kd.C_alloc ?_ _) | (with_reducible refine Kd.C_drewN ?_ _) | (with_reducible refine Kd.C_drew ?_))); (case side2 => exact HC0.out); rintro e w25 ⟨v220, rfl, ho0, hb⟩; refine ⟨_, rfl, ?_⟩; have n0_ := Aside0.mk (Kd.R_lower ho0 (below_size (by repeat (first | (with_reducible first | exact HB.out | apply below_alloc | apply pw_below_drewN | apply below_drew1) | exact HB.out)))); have n1_ := Aside0.mk (below_step (by repeat (first | (with_reducible first | exact HB.out | apply below_alloc | apply pw_below_drewN | apply below_drew1) | exact HB.out)) hb); clear HB; have HO221 := n0_; have HB := n1_; clear n0_ n1_; (try clear hb); (try clear hb2); (try clear hk); (try clear hi); (try clear ho0); obtain ⟨Ao26, co26, eo26⟩ := Kd.R_slice HO221.out; subst eo26) | ((with_reducible refine gate_callee (f := 12) rfl ?_); refine goesL_ (some 15) rfl rfl Tryz.func12 (by kernel_rfl) rfl #[.slice Ao26 t219.length co26] rfl (by (try simp only [List.map_toArray, List.map_cons, List.map_nil]); first | done | rfl | (simp only [List.length_drop, List.length_take]; rfl)) ?_; (with_reducible refine (spec_ConfText.calls k _ _ t219 t222 _ ?side1 ?side2 A7.out).mono ?_); (case side1 => repeat (first | exact (Kd.R_reads' HO221.out).2.2 | (with_reducible refine Kd.C_alloc ?_ _) | (with_reducible refine Kd.C_drewN ?_ _) | (with_reducible refine Kd.C_drew ?_))); (case side2 => exact (Kd.R_reads' HO221.out).2.1); rintro e w' ⟨rfl, ⟨nd, rfl⟩⟩; refine ⟨_, rfl, ?_⟩) | ((with_reducible refine gate_callee (f := 11) rfl ?_); refine goesL_ (some 16) rfl rfl Tryz.func11 (by kernel_rfl) rfl #[.string t222] rfl (by (try simp only [List.map_toArray, List.map_cons, List.map_nil]); first | done | rfl | (simp only [List.length_drop, List.length_take]; rfl)) ?_; (with_reducible refine (impl_ModelDefs.calls k t222 t223 t224 _ (by repeat (first | exact HPM.out | exact prem_below HPM.out HB.out | (with_reducible refine prem_below ?_ (Drawn0.below ⟨_, rfl⟩)))) A8.out).mono ?_); rintro e w27 ⟨v225, rfl, ⟨lp_, hp_, ho0⟩, hb⟩; have HPERM := Aside0.mk hp_; clear hp_; refine ⟨_, rfl, ?_⟩; have n0_ := Aside0.mk (Kd.R_below (by (with_reducible repeat (first | apply Kd.R_alloc | apply Kd.R_drewN | apply Kd.R_drew)); exact HO221.out) hb); have n1_ := Aside0.mk (Kd.R_lower ho0 (below_size (by repeat (first | (with_reducible first | exact HB.out | apply below_alloc | apply pw_below_drewN | apply below_drew1) | exact HB.out)))); have n2_ := Aside0.mk (below_step (by repeat (first | (with_reducible first | exact HB.out | apply below_alloc | apply pw_below_drewN | apply below_drew1) | exact HB.out)) hb); clear HO221; clear HB; have HO221 := n0_; have HO226 := n1_; have HB := n2_; clear n0_ n1_ n2_; (try clear hb); (try clear hb2); (try clear hk); (try clear hi); (try clear ho0)) | (go_at_call 15; (with_reducible refine (spec_ModelMeans.calls k _ _ l0 t227 _ ?side1 ?side2 A10.out).mono ?_); (case side1 => repeat (first | exact (Kd.C_below HR0.out HB.out) | (with_reducible refine Kd.C_alloc ?_ _) | (with_reducible refine Kd.C_drewN ?_ _) | (with_reducible refine Kd.C_drew ?_))); (case side2 => exact HC0.out); rintro e w28 ⟨v228, rfl, ho0, hb⟩; have n0_ := Aside0.mk (Kd.R_below (by (with_reducible repeat (first | apply Kd.R_alloc | apply Kd.R_drewN | apply Kd.R_drew)); exact HO221.out) hb); have n1_ := Aside0.mk (Kd.R_elder' (by (with_reducible repeat (first | apply Kd.R_alloc | apply Kd.R_drewN | apply Kd.R_drew)); exact HO226.out) (Kd.R_base ho0) hb); have n2_ := Aside0.mk (Kd.R_lower (Kd.R_new' ho0 (Kd.R_lt (by (with_reducible repeat (first | apply Kd.R_alloc | apply Kd.R_drewN | apply Kd.R_drew)); exact HO226.out))) (below_size (by repeat (first | (with_reducible first | exact HB.out | apply below_alloc | apply pw_below_drewN | apply below_drew1) | exact HB.out)))); have n3_ := Aside0.mk (below_step (by repeat (first | (with_reducible first | exact HB.out | apply below_alloc | apply pw_below_drewN | apply below_drew1) | exact HB.out)) hb); clear HO221; clear HO226; clear HB; have HO221 := n0_; have HO226 := n1_; have HO229 := n2_; have HB := n3_; clear n0_ n1_ n2_ n3_; (try clear hb); (try clear hb2); (try clear hk); (try clear hi); (try clear ho0); obtain ⟨Ao29, co29, eo29⟩ := Kd.R_slice HO226.out; subst eo29; obtain ⟨Ao30, co30, eo30⟩ := Kd.R_slice HO229.out; subst eo30) | (go_at_call 14; (with_reducible refine (spec_SameDefs.calls _ _ _ lp_ _ _ t227 false _ ?side1 ?side2 ?side3 ?side4 (same_perm (model_few A8.out) HPERM.out A11.out).choose_spec).mono ?_); (case side1 => repeat (first | exact (Kd.R_reads' HO226.out).2.2 | (with_reducible refine Kd.C_alloc ?_ _) | (with_reducible refine Kd.C_drewN ?_ _) | (with_reducible refine Kd.C_drew ?_))); (case side2 => exact (Kd.R_reads' HO226.out).2.1); (case side3 => repeat (first | exact (Kd.R_reads' HO229.out).2.2 | (with_reducible refine Kd.C_alloc ?_ _) | (with_reducible refine Kd.C_drewN ?_ _) | (with_reducible refine Kd.C_drew ?_))); (case side4 => exact (Kd.R_reads' HO229.out).2.1); rintro e w' ⟨rfl, ⟨nd, rfl⟩⟩))
     go_ret
     exact ⟨by first | rfl | (rw [← HPERM.out.length_eq]; rfl) | (simp [← HPERM.out.length_eq]; done) | (simp [errW_none, errW_some] <;> rfl) | (simp [*, errW_none, errW_some] <;> rfl), by repeat (first | (with_reducible first | exact HB.out | apply below_alloc | apply pw_below_drewN | apply below_drew1) | exact HB.out)⟩
   ·rw [if_neg c9] at H
    have c9b0 : (t224 == 0) = false := beq_eq_false_iff_ne.mpr c9
    have c9b1 : (t224 != 0) = true := bne_iff_ne.mpr c9
    obtain rfl := Option.some.inj H
    go_enter Tryz.func4, Tryz.ntmps4
    go_wp2_with (first | ((with_reducible refine gate_callee (f := 8) rfl ?_); refine goesL_ (some 6) rfl rfl Tryz.func8 (by kernel_rfl) rfl #[.slice A0 l0.length c0] rfl (by (try simp only [List.map_toArray, List.map_cons, List.map_nil]); first | done | rfl | (simp only [List.length_drop, List.length_take]; rfl)) ?_; (with_reducible refine (laws_zzFits19.calls k _ _ l0 true _ ?side1 ?side2 A2.out).mono ?_); (case side1 => repeat (first | exact HR0.out | (with_reducible refine Kd.C_alloc ?_ _) | (with_reducible refine Kd.C_drewN ?_ _) | (with_reducible refine Kd.C_drew ?_))); (case side2 => exact HC0.out); rintro e w31 ⟨rfl, hb⟩; refine ⟨_, rfl, ?_⟩; have n0_ := Aside0.mk (below_step (by repeat (first | (with_reducible first | exact HB.out | apply below_alloc | apply pw_below_drewN | apply below_drew1) | exact HB.out)) hb); clear HB; have HB := n0_; clear n0_; (try clear hb); (try clear hb2); (try clear hk); (try clear hi)) | ((with_reducible refine gate_callee (f := 9) rfl ?_); refine goesL_ (some 9) rfl rfl Tryz.func9 (by kernel_rfl) rfl #[.slice A0 l0.length c0] rfl (by (try simp only [List.map_toArray, List.map_cons, List.map_nil]); first | done | rfl | (simp only [List.length_drop, List.length_take]; rfl)) ?_; (with_reducible refine (laws_modelled.calls k _ _ l0 true _ ?side1 ?side2 A4.out).mono ?_); (case side1 => repeat (first | exact (Kd.C_below HR0.out HB.out) | (with_reducible refine Kd.C_alloc ?_ _) | (with_reducible refine Kd.C_drewN ?_ _) | (with_reducible refine Kd.C_drew ?_))); (case side2 => exact HC0.out); rintro e w32 ⟨rfl, hb⟩; refine ⟨_, rfl, ?_⟩; have n0_ := Aside0.mk (below_step (by repeat (first | (with_reducible first | exact HB.out | apply below_alloc | apply pw_below_drewN | apply below_drew1) | exact HB.out)) hb); clear HB; have HB := n0_; clear n0_; (try clear hb); (try clear hb2); (try clear hk); (try clear hi)) | ((with_reducible refine gate_callee (f := 13) rfl ?_); refine goesL_ (some 14) rfl rfl Tryz.func13 (by kernel_rfl) rfl #[.slice A0 l0.length c0] rfl (by (try simp only [List.map_toArray, List.map_cons, List.map_nil]); first | done | rfl | (simp only [List.length_drop, List.length_take]; rfl)) ?_; (with_reducible refine (spec_ModelConf.calls k _ _ l0 t219 _ ?side1 ?side2 A6.out).mono ?_); (case side1 => repeat (first | exact (Kd.C_below HR0.out HB.out) | (with_reducible refine Kd.C_alloc ?_ _) | (with_reducible refine Kd.C_drewN ?_ _) | (with_reducible refine Kd.C_drew ?_))); (case side2 => exact HC0.out); rintro e w33 ⟨v220, rfl, ho0, hb⟩; refine ⟨_, rfl, ?_⟩; have n0_ := Aside0.mk (Kd.R_lower ho0 (below_size (by repeat (first | (with_reducible first | exact HB.out | apply below_alloc | apply pw_below_drewN | apply below_drew1) | exact HB.out)))); have n1_ := Aside0.mk (below_step (by repeat (first | (with_reducible first | exact HB.out | apply below_alloc | apply pw_below_drewN | apply below_drew1) | exact HB.out)) hb); clear HB; have HO221 := n0_; have HB := n1_; clear n0_ n1_; (try clear hb); (try clear hb2); (try clear hk); (try clear hi); (try clear ho0); obtain ⟨Ao34, co34, eo34⟩ := Kd.R_slice HO221.out; subst eo34) | ((with_reducible refine gate_callee (f := 12) rfl ?_); refine goesL_ (some 15) rfl rfl Tryz.func12 (by kernel_rfl) rfl #[.slice Ao34 t219.length co34] rfl (by (try simp only [List.map_toArray, List.map_cons, List.map_nil]); first | done | rfl | (simp only [List.length_drop, List.length_take]; rfl)) ?_; (with_reducible refine (spec_ConfText.calls k _ _ t219 t222 _ ?side1 ?side2 A7.out).mono ?_); (case side1 => repeat (first | exact (Kd.R_reads' HO221.out).2.2 | (with_reducible refine Kd.C_alloc ?_ _) | (with_reducible refine Kd.C_drewN ?_ _) | (with_reducible refine Kd.C_drew ?_))); (case side2 => exact (Kd.R_reads' HO221.out).2.1); rintro e w' ⟨rfl, ⟨nd, rfl⟩⟩; refine ⟨_, rfl, ?_⟩) | ((with_reducible refine gate_callee (f := 11) rfl ?_); refine goesL_ (some 16) rfl rfl Tryz.func11 (by kernel_rfl) rfl #[.string t222] rfl (by (try simp only [List.map_toArray, List.map_cons, List.map_nil]); first | done | rfl | (simp only [List.length_drop, List.length_take]; rfl)) ?_; (with_reducible refine (impl_ModelDefs.calls k t222 t223 t224 _ (by repeat (first | exact HPM.out | exact prem_below HPM.out HB.out | (with_reducible refine prem_below ?_ (Drawn0.below ⟨_, rfl⟩)))) A8.out).mono ?_); rintro e w35 ⟨v225, rfl, ⟨lp_, hp_, ho0⟩, hb⟩; have HPERM := Aside0.mk hp_; clear hp_; refine ⟨_, rfl, ?_⟩; have n0_ := Aside0.mk (Kd.R_below (by (with_reducible repeat (first | apply Kd.R_alloc | apply Kd.R_drewN | apply Kd.R_drew)); exact HO221.out) hb); have n1_ := Aside0.mk (Kd.R_lower ho0 (below_size (by repeat (first | (with_reducible first | exact HB.out | apply below_alloc | apply pw_below_drewN | apply below_drew1) | exact HB.out)))); have n2_ := Aside0.mk (below_step (by repeat (first | (with_reducible first | exact HB.out | apply below_alloc | apply pw_below_drewN | apply below_drew1) | exact HB.out)) hb); clear HO221; clear HB; have HO221 := n0_; have HO226 := n1_; have HB := n2_; clear n0_ n1_ n2_; (try clear hb); (try clear hb2); (try clear hk); (try clear hi); (try clear ho0)))
    go_ret
    exact ⟨by first | rfl | (rw [← HPERM.out.length_eq]; rfl) | (simp [← HPERM.out.length_eq]; done) | (simp [errW_none, errW_some] <;> rfl) | (simp [*, errW_none, errW_some] <;> rfl), by repeat (first | (with_reducible first | exact HB.out | apply below_alloc | apply pw_below_drewN | apply below_drew1) | exact HB.out)⟩
  ·replace c5 := Bool.eq_false_iff.mpr c5
   subst c5
   have H1 : ((laws_awakeModel.f k).bind fun t218 => (some t218)) = some r := by rw [if_neg (show ¬ (false = true) by decide)] at H; exact H
   clear H
   have H := H1
   clear H1
   replace H := Option.bind_eq_some_iff.mp H
   obtain ⟨t218, A360, H⟩ := H
   replace H : (some t218) = some r := H
   have A36 := Aside0.mk A360
   clear A360
   obtain rfl := Option.some.inj H
   go_enter Tryz.func4, Tryz.ntmps4
   go_wp2_with (first | ((with_reducible refine gate_callee (f := 8) rfl ?_); refine goesL_ (some 6) rfl rfl Tryz.func8 (by kernel_rfl) rfl #[.slice A0 l0.length c0] rfl (by (try simp only [List.map_toArray, List.map_cons, List.map_nil]); first | done | rfl | (simp only [List.length_drop, List.length_take]; rfl)) ?_; (with_reducible refine (laws_zzFits19.calls k _ _ l0 true _ ?side1 ?side2 A2.out).mono ?_); (case side1 => repeat (first | exact HR0.out | (with_reducible refine Kd.C_alloc ?_ _) | (with_reducible refine Kd.C_drewN ?_ _) | (with_reducible refine Kd.C_drew ?_))); (case side2 => exact HC0.out); rintro e w37 ⟨rfl, hb⟩; refine ⟨_, rfl, ?_⟩; have n0_ := Aside0.mk (below_step (by repeat (first | (with_reducible first | exact HB.out | apply below_alloc | apply pw_below_drewN | apply below_drew1) | exact HB.out)) hb); clear HB; have HB := n0_; clear n0_; (try clear hb); (try clear hb2); (try clear hk); (try clear hi)) | ((with_reducible refine gate_callee (f := 9) rfl ?_); refine goesL_ (some 9) rfl rfl Tryz.func9 (by kernel_rfl) rfl #[.slice A0 l0.length c0] rfl (by (try simp only [List.map_toArray, List.map_cons, List.map_nil]); first | done | rfl | (simp only [List.length_drop, List.length_take]; rfl)) ?_; (with_reducible refine (laws_modelled.calls k _ _ l0 false _ ?side1 ?side2 A4.out).mono ?_); (case side1 => repeat (first | exact (Kd.C_below HR0.out HB.out) | (with_reducible refine Kd.C_alloc ?_ _) | (with_reducible refine Kd.C_drewN ?_ _) | (with_reducible refine Kd.C_drew ?_))); (case side2 => exact HC0.out); rintro e w38 ⟨rfl, hb⟩; refine ⟨_, rfl, ?_⟩; have n0_ := Aside0.mk (below_step (by repeat (first | (with_reducible first | exact HB.out | apply below_alloc | apply pw_below_drewN | apply below_drew1) | exact HB.out)) hb); clear HB; have HB := n0_; clear n0_; (try clear hb); (try clear hb2); (try clear hk); (try clear hi)) | ((with_reducible refine gate_callee (f := 10) rfl ?_); refine goesL_ (some 11) rfl rfl Tryz.func10 (by kernel_rfl) rfl #[] rfl (by (try simp only [List.map_toArray, List.map_cons, List.map_nil]); first | done | rfl | (simp only [List.length_drop, List.length_take]; rfl)) ?_; (with_reducible refine (laws_awakeModel.calls k  t218 _ (by repeat (first | exact HPM.out | exact prem_below HPM.out HB.out | (with_reducible refine prem_below ?_ (Drawn0.below ⟨_, rfl⟩)))) A36.out).mono ?_); rintro e w39 ⟨rfl, hb⟩; refine ⟨_, rfl, ?_⟩; have n0_ := Aside0.mk (below_step (by repeat (first | (with_reducible first | exact HB.out | apply below_alloc | apply pw_below_drewN | apply below_drew1) | exact HB.out)) hb); clear HB; have HB := n0_; clear n0_; (try clear hb); (try clear hb2); (try clear hk); (try clear hi)))
   go_ret
   exact ⟨by first | rfl | (rw [← HPERM.out.length_eq]; rfl) | (simp [← HPERM.out.length_eq]; done) | (simp [errW_none, errW_some] <;> rfl) | (simp [*, errW_none, errW_some] <;> rfl), by repeat (first | (with_reducible first | exact HB.out | apply below_alloc | apply pw_below_drewN | apply below_drew1) | exact HB.out)⟩
 ·replace c3 := Bool.eq_false_iff.mpr c3
  subst c3
  have H1 : (some true) = some r := by rw [if_neg (show ¬ (false = true) by decide)] at H; exact H
  clear H
  have H := H1
  clear H1
  obtain rfl := Option.some.inj H
  go_enter Tryz.func4, Tryz.ntmps4
  go_wp2_with (first | ((with_reducible refine gate_callee (f := 8) rfl ?_); refine goesL_ (some 6) rfl rfl Tryz.func8 (by kernel_rfl) rfl #[.slice A0 l0.length c0] rfl (by (try simp only [List.map_toArray, List.map_cons, List.map_nil]); first | done | rfl | (simp only [List.length_drop, List.length_take]; rfl)) ?_; (with_reducible refine (laws_zzFits19.calls k _ _ l0 false _ ?side1 ?side2 A2.out).mono ?_); (case side1 => repeat (first | exact HR0.out | (with_reducible refine Kd.C_alloc ?_ _) | (with_reducible refine Kd.C_drewN ?_ _) | (with_reducible refine Kd.C_drew ?_))); (case side2 => exact HC0.out); rintro e w40 ⟨rfl, hb⟩; refine ⟨_, rfl, ?_⟩; have n0_ := Aside0.mk (below_step (by repeat (first | (with_reducible first | exact HB.out | apply below_alloc | apply pw_below_drewN | apply below_drew1) | exact HB.out)) hb); clear HB; have HB := n0_; clear n0_; (try clear hb); (try clear hb2); (try clear hk); (try clear hi)))
  go_ret
  exact ⟨by first | rfl | (rw [← HPERM.out.length_eq]; rfl) | (simp [← HPERM.out.length_eq]; done) | (simp [errW_none, errW_some] <;> rfl) | (simp [*, errW_none, errW_some] <;> rfl), by repeat (first | (with_reducible first | exact HB.out | apply below_alloc | apply pw_below_drewN | apply below_drew1) | exact HB.out)⟩

end Go.Proofs.YtjglpjlbnmpdfaaGreatDoor.PFnModelDefs
