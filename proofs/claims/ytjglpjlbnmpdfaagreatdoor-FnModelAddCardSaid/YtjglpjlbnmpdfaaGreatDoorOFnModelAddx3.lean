/- The machine side of laws.FnModelAdd: each function of this text answers what its Lean function answers (written for this claim by a program of this session over the kit's print; no condition beyond what each theorem says). -/
import Derived.Test.YtjglpjlbnmpdfaaGreatDoorOFnModelAddx0
import Derived.Test.YtjglpjlbnmpdfaaGreatDoorOFnModelAddx2
namespace Go.Proofs.YtjglpjlbnmpdfaaGreatDoor.PFnModelAdd
open Go.RowKit Go.Proofs.YtjglpjlbnmpdfaaGreatDoorW.PrintWords Go.Proofs.YtjglpjlbnmpdfaaGreatDoorW.PrintLast Go.Proofs.YtjglpjlbnmpdfaaGreatDoorW.PrintMore
attribute [local go_sem] max2_int min2_int max_two min_two max_three min_three max_four min_four   -- for this text's walks alone
set_option linter.unusedVariables false
set_option linter.unusedSimpArgs false

/-! ### spec_Apart: function 23 -/
def spec_Apart.l0 : Nat → ByteArray → ByteArray → Int → Int → Option (Bool)
 | 0, _, _, _, _ => none
 | k + 1, x0, x3, x4, x5 => if x5 < (x0.size : Int) then (if 0 ≤ x5 then ((spec_WordByte.f (bt x0 x5)).bind fun t105 => (if t105 = true then (if x5 ≤ (wrap64 (x5 + 1)) then (if (wrap64 (x5 + 1)) ≤ (x0.size : Int) then (if x3.size + (x0.extract (x5 : Int).toNat ((wrap64 (x5 + 1)) : Int).toNat).size ≤ 9223372036854775807 then (spec_Apart.l0 k x0 (x3 ++ (x0.extract (x5 : Int).toNat ((wrap64 (x5 + 1)) : Int).toNat)) x4 (wrap64 (x5 + 1))) else (none)) else (none)) else (none)) else (if (bt x0 x5) = 46 then ((spec_Definition.f k x3).bind fun t106 => (if t106 = true then ((spec_Blank.f x4).bind fun t107 => (if t107 = true then (if x4 = 11 then (if x4 = 40 then (spec_Apart.l0 k x0 (⟨#[]⟩ : ByteArray) (bt x0 x5) (wrap64 (x5 + 1))) else (if x4 = 41 then (spec_Apart.l0 k x0 (⟨#[]⟩ : ByteArray) (bt x0 x5) (wrap64 (x5 + 1))) else (if x4 = 124 then (spec_Apart.l0 k x0 (⟨#[]⟩ : ByteArray) (bt x0 x5) (wrap64 (x5 + 1))) else (if x4 = 38 then (spec_Apart.l0 k x0 (⟨#[]⟩ : ByteArray) (bt x0 x5) (wrap64 (x5 + 1))) else (if x4 = 44 then (spec_Apart.l0 k x0 (⟨#[]⟩ : ByteArray) (bt x0 x5) (wrap64 (x5 + 1))) else (if x4 = 61 then (spec_Apart.l0 k x0 (⟨#[]⟩ : ByteArray) (bt x0 x5) (wrap64 (x5 + 1))) else (if x4 = 33 then (spec_Apart.l0 k x0 (⟨#[]⟩ : ByteArray) (bt x0 x5) (wrap64 (x5 + 1))) else (if x4 = 62 then (spec_Apart.l0 k x0 (⟨#[]⟩ : ByteArray) (bt x0 x5) (wrap64 (x5 + 1))) else (if x4 = 60 then (spec_Apart.l0 k x0 (⟨#[]⟩ : ByteArray) (bt x0 x5) (wrap64 (x5 + 1))) else (if x4 = 43 then (spec_Apart.l0 k x0 (⟨#[]⟩ : ByteArray) (bt x0 x5) (wrap64 (x5 + 1))) else (if x4 = 45 then (spec_Apart.l0 k x0 (⟨#[]⟩ : ByteArray) (bt x0 x5) (wrap64 (x5 + 1))) else (if x4 = 42 then (spec_Apart.l0 k x0 (⟨#[]⟩ : ByteArray) (bt x0 x5) (wrap64 (x5 + 1))) else (if x4 = 47 then (spec_Apart.l0 k x0 (⟨#[]⟩ : ByteArray) (bt x0 x5) (wrap64 (x5 + 1))) else (some false)))))))))))))) else (spec_Apart.l0 k x0 (⟨#[]⟩ : ByteArray) (bt x0 x5) (wrap64 (x5 + 1)))) else (if x4 = 40 then (spec_Apart.l0 k x0 (⟨#[]⟩ : ByteArray) (bt x0 x5) (wrap64 (x5 + 1))) else (if x4 = 41 then (spec_Apart.l0 k x0 (⟨#[]⟩ : ByteArray) (bt x0 x5) (wrap64 (x5 + 1))) else (if x4 = 124 then (spec_Apart.l0 k x0 (⟨#[]⟩ : ByteArray) (bt x0 x5) (wrap64 (x5 + 1))) else (if x4 = 38 then (spec_Apart.l0 k x0 (⟨#[]⟩ : ByteArray) (bt x0 x5) (wrap64 (x5 + 1))) else (if x4 = 44 then (spec_Apart.l0 k x0 (⟨#[]⟩ : ByteArray) (bt x0 x5) (wrap64 (x5 + 1))) else (if x4 = 61 then (spec_Apart.l0 k x0 (⟨#[]⟩ : ByteArray) (bt x0 x5) (wrap64 (x5 + 1))) else (if x4 = 33 then (spec_Apart.l0 k x0 (⟨#[]⟩ : ByteArray) (bt x0 x5) (wrap64 (x5 + 1))) else (if x4 = 62 then (spec_Apart.l0 k x0 (⟨#[]⟩ : ByteArray) (bt x0 x5) (wrap64 (x5 + 1))) else (if x4 = 60 then (spec_Apart.l0 k x0 (⟨#[]⟩ : ByteArray) (bt x0 x5) (wrap64 (x5 + 1))) else (if x4 = 43 then (spec_Apart.l0 k x0 (⟨#[]⟩ : ByteArray) (bt x0 x5) (wrap64 (x5 + 1))) else (if x4 = 45 then (spec_Apart.l0 k x0 (⟨#[]⟩ : ByteArray) (bt x0 x5) (wrap64 (x5 + 1))) else (if x4 = 42 then (spec_Apart.l0 k x0 (⟨#[]⟩ : ByteArray) (bt x0 x5) (wrap64 (x5 + 1))) else (if x4 = 47 then (spec_Apart.l0 k x0 (⟨#[]⟩ : ByteArray) (bt x0 x5) (wrap64 (x5 + 1))) else (some false)))))))))))))))) else (spec_Apart.l0 k x0 (⟨#[]⟩ : ByteArray) (bt x0 x5) (wrap64 (x5 + 1))))) else (spec_Apart.l0 k x0 (⟨#[]⟩ : ByteArray) (bt x0 x5) (wrap64 (x5 + 1)))))) else (none)) else (some true)
def spec_Apart.f (k : Nat) (a0 : ByteArray) : Option (Bool) := spec_Apart.l0 k a0 (⟨#[]⟩ : ByteArray) 32 0
theorem spec_Apart.mono_l : ∀ k, (∀ y0 y1 y2 y3, LeO (spec_Apart.l0 k y0 y1 y2 y3) (spec_Apart.l0 (k + 1) y0 y1 y2 y3))
 | 0 => fun _ _ _ _ r h => by simp [spec_Apart.l0] at h
 | k + 1 => by
  have ih0 := spec_Apart.mono_l k
  ·intro y0 y1 y2 y3
   unfold spec_Apart.l0
   repeat' first
   | (with_reducible exact ih0 _ _ _ _)
   | (with_reducible exact spec_Definition.mono _ _)
   | (with_reducible exact LeO.refl _)
   | (with_reducible exact LeO.none _)
   | (with_reducible refine LeO.ite ?_ ?_)
   | (with_reducible refine LeO.bind ?_ (fun _ => ?_))
   | exact ih0 _ _ _ _
   | exact spec_Definition.mono _ _
   | exact LeO.none _
   | refine LeO.ite ?_ ?_
   | refine LeO.bind ?_ (fun _ => ?_)
theorem spec_Apart.mono : ∀ a0 k, LeO (spec_Apart.f k a0) (spec_Apart.f (k + 1) a0) := by
 intro a0 k
 have ih0 := spec_Apart.mono_l k
 unfold spec_Apart.f
 repeat' first
   | (with_reducible exact ih0 _ _ _ _)
   | (with_reducible exact spec_Definition.mono _ _)
   | (with_reducible exact LeO.refl _)
   | (with_reducible exact LeO.none _)
   | (with_reducible refine LeO.ite ?_ ?_)
   | (with_reducible refine LeO.bind ?_ (fun _ => ?_))
   | exact ih0 _ _ _ _
   | exact spec_Definition.mono _ _
   | exact LeO.none _
   | refine LeO.ite ?_ ?_
   | refine LeO.bind ?_ (fun _ => ?_)
set_option maxHeartbeats 8000000 in
set_option maxRecDepth 100000 in
theorem spec_Apart.calls (k : Nat) (a0 : ByteArray) (r : Bool) (w : World) (h : spec_Apart.f k a0 = some r) :
  Calls Tryz.prog 23 #[.string a0] w fun e w' => e = .returned (.bool r) ∧ Drawn0 w w' := by
 have H : (spec_Apart.l0 k a0 (⟨#[]⟩ : ByteArray) 32 0) = some r := h
 clear h
 have H' := Aside0.mk H
 clear H
 go_enter Tryz.func23, Tryz.ntmps23
 go_wp2
 go_loopg [3, 4, 5] k (fun kq v3 v4 v5 w' => ∃ (x3_1 : ByteArray) (x4_1 : Int) (x5_1 : Int), v3 = .string x3_1 ∧ v4 = .int .u8 x4_1 ∧ v5 = .int .i64 x5_1 ∧ Aside0 (spec_Apart.l0 kq a0 x3_1 x4_1 x5_1 = some r) ∧ Aside0 (kq ≤ k) ∧ Drawn0 w w')
 case atStart => exact ⟨((⟨#[]⟩ : ByteArray)), (32), (0), orf, orf, orf, H', ⟨Nat.le_refl _⟩, by repeat (first | exact Drawn0.refl _ | apply Drawn0.step)⟩
 case round =>
  clear H'
  obtain ⟨x3_1, x4_1, x5_1, rfl, rfl, rfl, HA, HK1, ⟨m1, rfl⟩⟩ := hrel
  cases gk with
  | zero => exact absurd HA.out (by simp [spec_Apart.l0])
  | succ k1 =>
   have H := HA.out
   clear HA
   simp only [spec_Apart.l0] at H
   by_cases c2 : x5_1 < (a0.size : Int)
   ·rw [if_pos c2] at H
    have c2b0 : decide (x5_1 < (a0.size : Int)) = true := decide_eq_true c2
    clear c2
    by_cases c3 : 0 ≤ x5_1
    ·rw [if_pos c3] at H
     have c3b0 : decide (0 ≤ x5_1) = true := decide_eq_true c3
     clear c3
     replace H := Option.bind_eq_some_iff.mp H
     obtain ⟨t105, A50, H⟩ := H
     replace H : (if t105 = true then (if x5_1 ≤ (wrap64 (x5_1 + 1)) then (if (wrap64 (x5_1 + 1)) ≤ (a0.size : Int) then (if x3_1.size + (a0.extract (x5_1 : Int).toNat ((wrap64 (x5_1 + 1)) : Int).toNat).size ≤ 9223372036854775807 then (spec_Apart.l0 k1 a0 (x3_1 ++ (a0.extract (x5_1 : Int).toNat ((wrap64 (x5_1 + 1)) : Int).toNat)) x4_1 (wrap64 (x5_1 + 1))) else (none)) else (none)) else (none)) else (if (bt a0 x5_1) = 46 then ((spec_Definition.f k1 x3_1).bind fun t106 => (if t106 = true then ((spec_Blank.f x4_1).bind fun t107 => (if t107 = true then (if x4_1 = 11 then (if x4_1 = 40 then (spec_Apart.l0 k1 a0 (⟨#[]⟩ : ByteArray) (bt a0 x5_1) (wrap64 (x5_1 + 1))) else (if x4_1 = 41 then (spec_Apart.l0 k1 a0 (⟨#[]⟩ : ByteArray) (bt a0 x5_1) (wrap64 (x5_1 + 1))) else (if x4_1 = 124 then (spec_Apart.l0 k1 a0 (⟨#[]⟩ : ByteArray) (bt a0 x5_1) (wrap64 (x5_1 + 1))) else (if x4_1 = 38 then (spec_Apart.l0 k1 a0 (⟨#[]⟩ : ByteArray) (bt a0 x5_1) (wrap64 (x5_1 + 1))) else (if x4_1 = 44 then (spec_Apart.l0 k1 a0 (⟨#[]⟩ : ByteArray) (bt a0 x5_1) (wrap64 (x5_1 + 1))) else (if x4_1 = 61 then (spec_Apart.l0 k1 a0 (⟨#[]⟩ : ByteArray) (bt a0 x5_1) (wrap64 (x5_1 + 1))) else (if x4_1 = 33 then (spec_Apart.l0 k1 a0 (⟨#[]⟩ : ByteArray) (bt a0 x5_1) (wrap64 (x5_1 + 1))) else (if x4_1 = 62 then (spec_Apart.l0 k1 a0 (⟨#[]⟩ : ByteArray) (bt a0 x5_1) (wrap64 (x5_1 + 1))) else (if x4_1 = 60 then (spec_Apart.l0 k1 a0 (⟨#[]⟩ : ByteArray) (bt a0 x5_1) (wrap64 (x5_1 + 1))) else (if x4_1 = 43 then (spec_Apart.l0 k1 a0 (⟨#[]⟩ : ByteArray) (bt a0 x5_1) (wrap64 (x5_1 + 1))) else (if x4_1 = 45 then (spec_Apart.l0 k1 a0 (⟨#[]⟩ : ByteArray) (bt a0 x5_1) (wrap64 (x5_1 + 1))) else (if x4_1 = 42 then (spec_Apart.l0 k1 a0 (⟨#[]⟩ : ByteArray) (bt a0 x5_1) (wrap64 (x5_1 + 1))) else (if x4_1 = 47 then (spec_Apart.l0 k1 a0 (⟨#[]⟩ : ByteArray) (bt a0 x5_1) (wrap64 (x5_1 + 1))) else (some false)))))))))))))) else (spec_Apart.l0 k1 a0 (⟨#[]⟩ : ByteArray) (bt a0 x5_1) (wrap64 (x5_1 + 1)))) else (if x4_1 = 40 then (spec_Apart.l0 k1 a0 (⟨#[]⟩ : ByteArray) (bt a0 x5_1) (wrap64 (x5_1 + 1))) else (if x4_1 = 41 then (spec_Apart.l0 k1 a0 (⟨#[]⟩ : ByteArray) (bt a0 x5_1) (wrap64 (x5_1 + 1))) else (if x4_1 = 124 then (spec_Apart.l0 k1 a0 (⟨#[]⟩ : ByteArray) (bt a0 x5_1) (wrap64 (x5_1 + 1))) else (if x4_1 = 38 then (spec_Apart.l0 k1 a0 (⟨#[]⟩ : ByteArray) (bt a0 x5_1) (wrap64 (x5_1 + 1))) else (if x4_1 = 44 then (spec_Apart.l0 k1 a0 (⟨#[]⟩ : ByteArray) (bt a0 x5_1) (wrap64 (x5_1 + 1))) else (if x4_1 = 61 then (spec_Apart.l0 k1 a0 (⟨#[]⟩ : ByteArray) (bt a0 x5_1) (wrap64 (x5_1 + 1))) else (if x4_1 = 33 then (spec_Apart.l0 k1 a0 (⟨#[]⟩ : ByteArray) (bt a0 x5_1) (wrap64 (x5_1 + 1))) else (if x4_1 = 62 then (spec_Apart.l0 k1 a0 (⟨#[]⟩ : ByteArray) (bt a0 x5_1) (wrap64 (x5_1 + 1))) else (if x4_1 = 60 then (spec_Apart.l0 k1 a0 (⟨#[]⟩ : ByteArray) (bt a0 x5_1) (wrap64 (x5_1 + 1))) else (if x4_1 = 43 then (spec_Apart.l0 k1 a0 (⟨#[]⟩ : ByteArray) (bt a0 x5_1) (wrap64 (x5_1 + 1))) else (if x4_1 = 45 then (spec_Apart.l0 k1 a0 (⟨#[]⟩ : ByteArray) (bt a0 x5_1) (wrap64 (x5_1 + 1))) else (if x4_1 = 42 then (spec_Apart.l0 k1 a0 (⟨#[]⟩ : ByteArray) (bt a0 x5_1) (wrap64 (x5_1 + 1))) else (if x4_1 = 47 then (spec_Apart.l0 k1 a0 (⟨#[]⟩ : ByteArray) (bt a0 x5_1) (wrap64 (x5_1 + 1))) else (some false)))))))))))))))) else (spec_Apart.l0 k1 a0 (⟨#[]⟩ : ByteArray) (bt a0 x5_1) (wrap64 (x5_1 + 1))))) else (spec_Apart.l0 k1 a0 (⟨#[]⟩ : ByteArray) (bt a0 x5_1) (wrap64 (x5_1 + 1))))) = some r := H
     have A5 := Aside0.mk A50
     clear A50
     by_cases c6 : t105 = true
     ·subst c6
      have H1 : (if x5_1 ≤ (wrap64 (x5_1 + 1)) then (if (wrap64 (x5_1 + 1)) ≤ (a0.size : Int) then (if x3_1.size + (a0.extract (x5_1 : Int).toNat ((wrap64 (x5_1 + 1)) : Int).toNat).size ≤ 9223372036854775807 then (spec_Apart.l0 k1 a0 (x3_1 ++ (a0.extract (x5_1 : Int).toNat ((wrap64 (x5_1 + 1)) : Int).toNat)) x4_1 (wrap64 (x5_1 + 1))) else (none)) else (none)) else (none)) = some r := by rw [if_pos rfl] at H; exact H
      clear H
      have H := H1
      clear H1
      have c7b0 := eq_true (odt : 0 ≤ x5_1)
      by_cases c8 : x5_1 ≤ (wrap64 (x5_1 + 1))
      ·rw [if_pos c8] at H
       have c8b0 := eq_true c8
       have c8b1 : decide (x5_1 ≤ (wrap64 (x5_1 + 1))) = true := decide_eq_true c8
       by_cases c9 : (wrap64 (x5_1 + 1)) ≤ (a0.size : Int)
       ·rw [if_pos c9] at H
        have c9b0 := eq_true c9
        have c9b1 : decide ((wrap64 (x5_1 + 1)) ≤ (a0.size : Int)) = true := decide_eq_true c9
        by_cases c10 : x3_1.size + (a0.extract (x5_1 : Int).toNat ((wrap64 (x5_1 + 1)) : Int).toNat).size ≤ 9223372036854775807
        ·rw [if_pos c10] at H
         have c10b0 := eq_true c10
         have c10b1 : decide (x3_1.size + (a0.extract (x5_1 : Int).toNat ((wrap64 (x5_1 + 1)) : Int).toNat).size ≤ 9223372036854775807) = true := decide_eq_true c10
         try have c10b2 : (9223372036854775807 < x3_1.size + (a0.extract (x5_1 : Int).toNat ((wrap64 (x5_1 + 1)) : Int).toNat).size) = False := eq_false (Nat.not_lt.2 c10)
         have H' := Aside0.mk H
         clear H
         have p4 : 0 ≤ (x5_1 : Int) := odt
         have q4 : x5_1 < (a0.size : Int) := odt
         have hx4 := bt_at a0 x5_1
         replace p4 := eq_true p4
         replace q4 := eq_true q4
         go_wp2_with (first | ((with_reducible refine gate_callee (f := 45) rfl ?_); refine goesL_ (some 17) rfl rfl Tryz.func45 (by kernel_rfl) rfl #[.int .u8 (bt a0 x5_1)] rfl (by (try simp only [List.map_toArray, List.map_cons, List.map_nil]); first | done | rfl | (simp only [List.length_drop, List.length_take]; rfl)) ?_; (with_reducible refine (spec_WordByte.calls (bt a0 x5_1) true _ A5.out).mono ?_); rintro e w' ⟨rfl, ⟨nd, rfl⟩⟩; refine ⟨_, rfl, ?_⟩))
         all_goals
          go_roundg k1
          case measure => have := HK1.out; omega
          case rel => exact ⟨(x3_1 ++ (a0.extract (x5_1 : Int).toNat ((wrap64 (x5_1 + 1)) : Int).toNat)), (x4_1), (wrap64 (x5_1 + 1)), orf, orf, orf, H', ⟨by have := HK1.out; omega⟩, by repeat (first | exact Drawn0.refl _ | apply Drawn0.step)⟩
        ·rw [if_neg c10] at H
         exact absurd H (by simp)
       ·rw [if_neg c9] at H
        exact absurd H (by simp)
      ·rw [if_neg c8] at H
       exact absurd H (by simp)
     ·replace c6 := Bool.eq_false_iff.mpr c6
      subst c6
      have H1 : (if (bt a0 x5_1) = 46 then ((spec_Definition.f k1 x3_1).bind fun t106 => (if t106 = true then ((spec_Blank.f x4_1).bind fun t107 => (if t107 = true then (if x4_1 = 11 then (if x4_1 = 40 then (spec_Apart.l0 k1 a0 (⟨#[]⟩ : ByteArray) (bt a0 x5_1) (wrap64 (x5_1 + 1))) else (if x4_1 = 41 then (spec_Apart.l0 k1 a0 (⟨#[]⟩ : ByteArray) (bt a0 x5_1) (wrap64 (x5_1 + 1))) else (if x4_1 = 124 then (spec_Apart.l0 k1 a0 (⟨#[]⟩ : ByteArray) (bt a0 x5_1) (wrap64 (x5_1 + 1))) else (if x4_1 = 38 then (spec_Apart.l0 k1 a0 (⟨#[]⟩ : ByteArray) (bt a0 x5_1) (wrap64 (x5_1 + 1))) else (if x4_1 = 44 then (spec_Apart.l0 k1 a0 (⟨#[]⟩ : ByteArray) (bt a0 x5_1) (wrap64 (x5_1 + 1))) else (if x4_1 = 61 then (spec_Apart.l0 k1 a0 (⟨#[]⟩ : ByteArray) (bt a0 x5_1) (wrap64 (x5_1 + 1))) else (if x4_1 = 33 then (spec_Apart.l0 k1 a0 (⟨#[]⟩ : ByteArray) (bt a0 x5_1) (wrap64 (x5_1 + 1))) else (if x4_1 = 62 then (spec_Apart.l0 k1 a0 (⟨#[]⟩ : ByteArray) (bt a0 x5_1) (wrap64 (x5_1 + 1))) else (if x4_1 = 60 then (spec_Apart.l0 k1 a0 (⟨#[]⟩ : ByteArray) (bt a0 x5_1) (wrap64 (x5_1 + 1))) else (if x4_1 = 43 then (spec_Apart.l0 k1 a0 (⟨#[]⟩ : ByteArray) (bt a0 x5_1) (wrap64 (x5_1 + 1))) else (if x4_1 = 45 then (spec_Apart.l0 k1 a0 (⟨#[]⟩ : ByteArray) (bt a0 x5_1) (wrap64 (x5_1 + 1))) else (if x4_1 = 42 then (spec_Apart.l0 k1 a0 (⟨#[]⟩ : ByteArray) (bt a0 x5_1) (wrap64 (x5_1 + 1))) else (if x4_1 = 47 then (spec_Apart.l0 k1 a0 (⟨#[]⟩ : ByteArray) (bt a0 x5_1) (wrap64 (x5_1 + 1))) else (some false)))))))))))))) else (spec_Apart.l0 k1 a0 (⟨#[]⟩ : ByteArray) (bt a0 x5_1) (wrap64 (x5_1 + 1)))) else (if x4_1 = 40 then (spec_Apart.l0 k1 a0 (⟨#[]⟩ : ByteArray) (bt a0 x5_1) (wrap64 (x5_1 + 1))) else (if x4_1 = 41 then (spec_Apart.l0 k1 a0 (⟨#[]⟩ : ByteArray) (bt a0 x5_1) (wrap64 (x5_1 + 1))) else (if x4_1 = 124 then (spec_Apart.l0 k1 a0 (⟨#[]⟩ : ByteArray) (bt a0 x5_1) (wrap64 (x5_1 + 1))) else (if x4_1 = 38 then (spec_Apart.l0 k1 a0 (⟨#[]⟩ : ByteArray) (bt a0 x5_1) (wrap64 (x5_1 + 1))) else (if x4_1 = 44 then (spec_Apart.l0 k1 a0 (⟨#[]⟩ : ByteArray) (bt a0 x5_1) (wrap64 (x5_1 + 1))) else (if x4_1 = 61 then (spec_Apart.l0 k1 a0 (⟨#[]⟩ : ByteArray) (bt a0 x5_1) (wrap64 (x5_1 + 1))) else (if x4_1 = 33 then (spec_Apart.l0 k1 a0 (⟨#[]⟩ : ByteArray) (bt a0 x5_1) (wrap64 (x5_1 + 1))) else (if x4_1 = 62 then (spec_Apart.l0 k1 a0 (⟨#[]⟩ : ByteArray) (bt a0 x5_1) (wrap64 (x5_1 + 1))) else (if x4_1 = 60 then (spec_Apart.l0 k1 a0 (⟨#[]⟩ : ByteArray) (bt a0 x5_1) (wrap64 (x5_1 + 1))) else (if x4_1 = 43 then (spec_Apart.l0 k1 a0 (⟨#[]⟩ : ByteArray) (bt a0 x5_1) (wrap64 (x5_1 + 1))) else (if x4_1 = 45 then (spec_Apart.l0 k1 a0 (⟨#[]⟩ : ByteArray) (bt a0 x5_1) (wrap64 (x5_1 + 1))) else (if x4_1 = 42 then (spec_Apart.l0 k1 a0 (⟨#[]⟩ : ByteArray) (bt a0 x5_1) (wrap64 (x5_1 + 1))) else (if x4_1 = 47 then (spec_Apart.l0 k1 a0 (⟨#[]⟩ : ByteArray) (bt a0 x5_1) (wrap64 (x5_1 + 1))) else (some false)))))))))))))))) else (spec_Apart.l0 k1 a0 (⟨#[]⟩ : ByteArray) (bt a0 x5_1) (wrap64 (x5_1 + 1))))) else (spec_Apart.l0 k1 a0 (⟨#[]⟩ : ByteArray) (bt a0 x5_1) (wrap64 (x5_1 + 1)))) = some r := by rw [if_neg (show ¬ (false = true) by decide)] at H; exact H
      clear H
      have H := H1
      clear H1
      by_cases c11 : (bt a0 x5_1) = 46
      ·rw [if_pos c11] at H
       have c11b0 : ((bt a0 x5_1) == 46) = true := beq_iff_eq.mpr c11
       have c11b1 : ((bt a0 x5_1) != 46) = false := bne_eq_false_iff_eq.mpr c11
       clear c11
       replace H := Option.bind_eq_some_iff.mp H
       obtain ⟨t106, A120, H⟩ := H
       replace H : (if t106 = true then ((spec_Blank.f x4_1).bind fun t107 => (if t107 = true then (if x4_1 = 11 then (if x4_1 = 40 then (spec_Apart.l0 k1 a0 (⟨#[]⟩ : ByteArray) (bt a0 x5_1) (wrap64 (x5_1 + 1))) else (if x4_1 = 41 then (spec_Apart.l0 k1 a0 (⟨#[]⟩ : ByteArray) (bt a0 x5_1) (wrap64 (x5_1 + 1))) else (if x4_1 = 124 then (spec_Apart.l0 k1 a0 (⟨#[]⟩ : ByteArray) (bt a0 x5_1) (wrap64 (x5_1 + 1))) else (if x4_1 = 38 then (spec_Apart.l0 k1 a0 (⟨#[]⟩ : ByteArray) (bt a0 x5_1) (wrap64 (x5_1 + 1))) else (if x4_1 = 44 then (spec_Apart.l0 k1 a0 (⟨#[]⟩ : ByteArray) (bt a0 x5_1) (wrap64 (x5_1 + 1))) else (if x4_1 = 61 then (spec_Apart.l0 k1 a0 (⟨#[]⟩ : ByteArray) (bt a0 x5_1) (wrap64 (x5_1 + 1))) else (if x4_1 = 33 then (spec_Apart.l0 k1 a0 (⟨#[]⟩ : ByteArray) (bt a0 x5_1) (wrap64 (x5_1 + 1))) else (if x4_1 = 62 then (spec_Apart.l0 k1 a0 (⟨#[]⟩ : ByteArray) (bt a0 x5_1) (wrap64 (x5_1 + 1))) else (if x4_1 = 60 then (spec_Apart.l0 k1 a0 (⟨#[]⟩ : ByteArray) (bt a0 x5_1) (wrap64 (x5_1 + 1))) else (if x4_1 = 43 then (spec_Apart.l0 k1 a0 (⟨#[]⟩ : ByteArray) (bt a0 x5_1) (wrap64 (x5_1 + 1))) else (if x4_1 = 45 then (spec_Apart.l0 k1 a0 (⟨#[]⟩ : ByteArray) (bt a0 x5_1) (wrap64 (x5_1 + 1))) else (if x4_1 = 42 then (spec_Apart.l0 k1 a0 (⟨#[]⟩ : ByteArray) (bt a0 x5_1) (wrap64 (x5_1 + 1))) else (if x4_1 = 47 then (spec_Apart.l0 k1 a0 (⟨#[]⟩ : ByteArray) (bt a0 x5_1) (wrap64 (x5_1 + 1))) else (some false)))))))))))))) else (spec_Apart.l0 k1 a0 (⟨#[]⟩ : ByteArray) (bt a0 x5_1) (wrap64 (x5_1 + 1)))) else (if x4_1 = 40 then (spec_Apart.l0 k1 a0 (⟨#[]⟩ : ByteArray) (bt a0 x5_1) (wrap64 (x5_1 + 1))) else (if x4_1 = 41 then (spec_Apart.l0 k1 a0 (⟨#[]⟩ : ByteArray) (bt a0 x5_1) (wrap64 (x5_1 + 1))) else (if x4_1 = 124 then (spec_Apart.l0 k1 a0 (⟨#[]⟩ : ByteArray) (bt a0 x5_1) (wrap64 (x5_1 + 1))) else (if x4_1 = 38 then (spec_Apart.l0 k1 a0 (⟨#[]⟩ : ByteArray) (bt a0 x5_1) (wrap64 (x5_1 + 1))) else (if x4_1 = 44 then (spec_Apart.l0 k1 a0 (⟨#[]⟩ : ByteArray) (bt a0 x5_1) (wrap64 (x5_1 + 1))) else (if x4_1 = 61 then (spec_Apart.l0 k1 a0 (⟨#[]⟩ : ByteArray) (bt a0 x5_1) (wrap64 (x5_1 + 1))) else (if x4_1 = 33 then (spec_Apart.l0 k1 a0 (⟨#[]⟩ : ByteArray) (bt a0 x5_1) (wrap64 (x5_1 + 1))) else (if x4_1 = 62 then (spec_Apart.l0 k1 a0 (⟨#[]⟩ : ByteArray) (bt a0 x5_1) (wrap64 (x5_1 + 1))) else (if x4_1 = 60 then (spec_Apart.l0 k1 a0 (⟨#[]⟩ : ByteArray) (bt a0 x5_1) (wrap64 (x5_1 + 1))) else (if x4_1 = 43 then (spec_Apart.l0 k1 a0 (⟨#[]⟩ : ByteArray) (bt a0 x5_1) (wrap64 (x5_1 + 1))) else (if x4_1 = 45 then (spec_Apart.l0 k1 a0 (⟨#[]⟩ : ByteArray) (bt a0 x5_1) (wrap64 (x5_1 + 1))) else (if x4_1 = 42 then (spec_Apart.l0 k1 a0 (⟨#[]⟩ : ByteArray) (bt a0 x5_1) (wrap64 (x5_1 + 1))) else (if x4_1 = 47 then (spec_Apart.l0 k1 a0 (⟨#[]⟩ : ByteArray) (bt a0 x5_1) (wrap64 (x5_1 + 1))) else (some false)))))))))))))))) else (spec_Apart.l0 k1 a0 (⟨#[]⟩ : ByteArray) (bt a0 x5_1) (wrap64 (x5_1 + 1)))) = some r := H
       have A12 := Aside0.mk A120
       clear A120
       by_cases c13 : t106 = true
       ·subst c13
        have H1 : ((spec_Blank.f x4_1).bind fun t107 => (if t107 = true then (if x4_1 = 11 then (if x4_1 = 40 then (spec_Apart.l0 k1 a0 (⟨#[]⟩ : ByteArray) (bt a0 x5_1) (wrap64 (x5_1 + 1))) else (if x4_1 = 41 then (spec_Apart.l0 k1 a0 (⟨#[]⟩ : ByteArray) (bt a0 x5_1) (wrap64 (x5_1 + 1))) else (if x4_1 = 124 then (spec_Apart.l0 k1 a0 (⟨#[]⟩ : ByteArray) (bt a0 x5_1) (wrap64 (x5_1 + 1))) else (if x4_1 = 38 then (spec_Apart.l0 k1 a0 (⟨#[]⟩ : ByteArray) (bt a0 x5_1) (wrap64 (x5_1 + 1))) else (if x4_1 = 44 then (spec_Apart.l0 k1 a0 (⟨#[]⟩ : ByteArray) (bt a0 x5_1) (wrap64 (x5_1 + 1))) else (if x4_1 = 61 then (spec_Apart.l0 k1 a0 (⟨#[]⟩ : ByteArray) (bt a0 x5_1) (wrap64 (x5_1 + 1))) else (if x4_1 = 33 then (spec_Apart.l0 k1 a0 (⟨#[]⟩ : ByteArray) (bt a0 x5_1) (wrap64 (x5_1 + 1))) else (if x4_1 = 62 then (spec_Apart.l0 k1 a0 (⟨#[]⟩ : ByteArray) (bt a0 x5_1) (wrap64 (x5_1 + 1))) else (if x4_1 = 60 then (spec_Apart.l0 k1 a0 (⟨#[]⟩ : ByteArray) (bt a0 x5_1) (wrap64 (x5_1 + 1))) else (if x4_1 = 43 then (spec_Apart.l0 k1 a0 (⟨#[]⟩ : ByteArray) (bt a0 x5_1) (wrap64 (x5_1 + 1))) else (if x4_1 = 45 then (spec_Apart.l0 k1 a0 (⟨#[]⟩ : ByteArray) (bt a0 x5_1) (wrap64 (x5_1 + 1))) else (if x4_1 = 42 then (spec_Apart.l0 k1 a0 (⟨#[]⟩ : ByteArray) (bt a0 x5_1) (wrap64 (x5_1 + 1))) else (if x4_1 = 47 then (spec_Apart.l0 k1 a0 (⟨#[]⟩ : ByteArray) (bt a0 x5_1) (wrap64 (x5_1 + 1))) else (some false)))))))))))))) else (spec_Apart.l0 k1 a0 (⟨#[]⟩ : ByteArray) (bt a0 x5_1) (wrap64 (x5_1 + 1)))) else (if x4_1 = 40 then (spec_Apart.l0 k1 a0 (⟨#[]⟩ : ByteArray) (bt a0 x5_1) (wrap64 (x5_1 + 1))) else (if x4_1 = 41 then (spec_Apart.l0 k1 a0 (⟨#[]⟩ : ByteArray) (bt a0 x5_1) (wrap64 (x5_1 + 1))) else (if x4_1 = 124 then (spec_Apart.l0 k1 a0 (⟨#[]⟩ : ByteArray) (bt a0 x5_1) (wrap64 (x5_1 + 1))) else (if x4_1 = 38 then (spec_Apart.l0 k1 a0 (⟨#[]⟩ : ByteArray) (bt a0 x5_1) (wrap64 (x5_1 + 1))) else (if x4_1 = 44 then (spec_Apart.l0 k1 a0 (⟨#[]⟩ : ByteArray) (bt a0 x5_1) (wrap64 (x5_1 + 1))) else (if x4_1 = 61 then (spec_Apart.l0 k1 a0 (⟨#[]⟩ : ByteArray) (bt a0 x5_1) (wrap64 (x5_1 + 1))) else (if x4_1 = 33 then (spec_Apart.l0 k1 a0 (⟨#[]⟩ : ByteArray) (bt a0 x5_1) (wrap64 (x5_1 + 1))) else (if x4_1 = 62 then (spec_Apart.l0 k1 a0 (⟨#[]⟩ : ByteArray) (bt a0 x5_1) (wrap64 (x5_1 + 1))) else (if x4_1 = 60 then (spec_Apart.l0 k1 a0 (⟨#[]⟩ : ByteArray) (bt a0 x5_1) (wrap64 (x5_1 + 1))) else (if x4_1 = 43 then (spec_Apart.l0 k1 a0 (⟨#[]⟩ : ByteArray) (bt a0 x5_1) (wrap64 (x5_1 + 1))) else (if x4_1 = 45 then (spec_Apart.l0 k1 a0 (⟨#[]⟩ : ByteArray) (bt a0 x5_1) (wrap64 (x5_1 + 1))) else (if x4_1 = 42 then (spec_Apart.l0 k1 a0 (⟨#[]⟩ : ByteArray) (bt a0 x5_1) (wrap64 (x5_1 + 1))) else (if x4_1 = 47 then (spec_Apart.l0 k1 a0 (⟨#[]⟩ : ByteArray) (bt a0 x5_1) (wrap64 (x5_1 + 1))) else (some false)))))))))))))))) = some r := by rw [if_pos rfl] at H; exact H
        clear H
        have H := H1
        clear H1
        replace H := Option.bind_eq_some_iff.mp H
        obtain ⟨t107, A140, H⟩ := H
        replace H : (if t107 = true then (if x4_1 = 11 then (if x4_1 = 40 then (spec_Apart.l0 k1 a0 (⟨#[]⟩ : ByteArray) (bt a0 x5_1) (wrap64 (x5_1 + 1))) else (if x4_1 = 41 then (spec_Apart.l0 k1 a0 (⟨#[]⟩ : ByteArray) (bt a0 x5_1) (wrap64 (x5_1 + 1))) else (if x4_1 = 124 then (spec_Apart.l0 k1 a0 (⟨#[]⟩ : ByteArray) (bt a0 x5_1) (wrap64 (x5_1 + 1))) else (if x4_1 = 38 then (spec_Apart.l0 k1 a0 (⟨#[]⟩ : ByteArray) (bt a0 x5_1) (wrap64 (x5_1 + 1))) else (if x4_1 = 44 then (spec_Apart.l0 k1 a0 (⟨#[]⟩ : ByteArray) (bt a0 x5_1) (wrap64 (x5_1 + 1))) else (if x4_1 = 61 then (spec_Apart.l0 k1 a0 (⟨#[]⟩ : ByteArray) (bt a0 x5_1) (wrap64 (x5_1 + 1))) else (if x4_1 = 33 then (spec_Apart.l0 k1 a0 (⟨#[]⟩ : ByteArray) (bt a0 x5_1) (wrap64 (x5_1 + 1))) else (if x4_1 = 62 then (spec_Apart.l0 k1 a0 (⟨#[]⟩ : ByteArray) (bt a0 x5_1) (wrap64 (x5_1 + 1))) else (if x4_1 = 60 then (spec_Apart.l0 k1 a0 (⟨#[]⟩ : ByteArray) (bt a0 x5_1) (wrap64 (x5_1 + 1))) else (if x4_1 = 43 then (spec_Apart.l0 k1 a0 (⟨#[]⟩ : ByteArray) (bt a0 x5_1) (wrap64 (x5_1 + 1))) else (if x4_1 = 45 then (spec_Apart.l0 k1 a0 (⟨#[]⟩ : ByteArray) (bt a0 x5_1) (wrap64 (x5_1 + 1))) else (if x4_1 = 42 then (spec_Apart.l0 k1 a0 (⟨#[]⟩ : ByteArray) (bt a0 x5_1) (wrap64 (x5_1 + 1))) else (if x4_1 = 47 then (spec_Apart.l0 k1 a0 (⟨#[]⟩ : ByteArray) (bt a0 x5_1) (wrap64 (x5_1 + 1))) else (some false)))))))))))))) else (spec_Apart.l0 k1 a0 (⟨#[]⟩ : ByteArray) (bt a0 x5_1) (wrap64 (x5_1 + 1)))) else (if x4_1 = 40 then (spec_Apart.l0 k1 a0 (⟨#[]⟩ : ByteArray) (bt a0 x5_1) (wrap64 (x5_1 + 1))) else (if x4_1 = 41 then (spec_Apart.l0 k1 a0 (⟨#[]⟩ : ByteArray) (bt a0 x5_1) (wrap64 (x5_1 + 1))) else (if x4_1 = 124 then (spec_Apart.l0 k1 a0 (⟨#[]⟩ : ByteArray) (bt a0 x5_1) (wrap64 (x5_1 + 1))) else (if x4_1 = 38 then (spec_Apart.l0 k1 a0 (⟨#[]⟩ : ByteArray) (bt a0 x5_1) (wrap64 (x5_1 + 1))) else (if x4_1 = 44 then (spec_Apart.l0 k1 a0 (⟨#[]⟩ : ByteArray) (bt a0 x5_1) (wrap64 (x5_1 + 1))) else (if x4_1 = 61 then (spec_Apart.l0 k1 a0 (⟨#[]⟩ : ByteArray) (bt a0 x5_1) (wrap64 (x5_1 + 1))) else (if x4_1 = 33 then (spec_Apart.l0 k1 a0 (⟨#[]⟩ : ByteArray) (bt a0 x5_1) (wrap64 (x5_1 + 1))) else (if x4_1 = 62 then (spec_Apart.l0 k1 a0 (⟨#[]⟩ : ByteArray) (bt a0 x5_1) (wrap64 (x5_1 + 1))) else (if x4_1 = 60 then (spec_Apart.l0 k1 a0 (⟨#[]⟩ : ByteArray) (bt a0 x5_1) (wrap64 (x5_1 + 1))) else (if x4_1 = 43 then (spec_Apart.l0 k1 a0 (⟨#[]⟩ : ByteArray) (bt a0 x5_1) (wrap64 (x5_1 + 1))) else (if x4_1 = 45 then (spec_Apart.l0 k1 a0 (⟨#[]⟩ : ByteArray) (bt a0 x5_1) (wrap64 (x5_1 + 1))) else (if x4_1 = 42 then (spec_Apart.l0 k1 a0 (⟨#[]⟩ : ByteArray) (bt a0 x5_1) (wrap64 (x5_1 + 1))) else (if x4_1 = 47 then (spec_Apart.l0 k1 a0 (⟨#[]⟩ : ByteArray) (bt a0 x5_1) (wrap64 (x5_1 + 1))) else (some false))))))))))))))) = some r := H
        have A14 := Aside0.mk A140
        clear A140
        by_cases c15 : t107 = true
        ·subst c15
         have H1 : (if x4_1 = 11 then (if x4_1 = 40 then (spec_Apart.l0 k1 a0 (⟨#[]⟩ : ByteArray) (bt a0 x5_1) (wrap64 (x5_1 + 1))) else (if x4_1 = 41 then (spec_Apart.l0 k1 a0 (⟨#[]⟩ : ByteArray) (bt a0 x5_1) (wrap64 (x5_1 + 1))) else (if x4_1 = 124 then (spec_Apart.l0 k1 a0 (⟨#[]⟩ : ByteArray) (bt a0 x5_1) (wrap64 (x5_1 + 1))) else (if x4_1 = 38 then (spec_Apart.l0 k1 a0 (⟨#[]⟩ : ByteArray) (bt a0 x5_1) (wrap64 (x5_1 + 1))) else (if x4_1 = 44 then (spec_Apart.l0 k1 a0 (⟨#[]⟩ : ByteArray) (bt a0 x5_1) (wrap64 (x5_1 + 1))) else (if x4_1 = 61 then (spec_Apart.l0 k1 a0 (⟨#[]⟩ : ByteArray) (bt a0 x5_1) (wrap64 (x5_1 + 1))) else (if x4_1 = 33 then (spec_Apart.l0 k1 a0 (⟨#[]⟩ : ByteArray) (bt a0 x5_1) (wrap64 (x5_1 + 1))) else (if x4_1 = 62 then (spec_Apart.l0 k1 a0 (⟨#[]⟩ : ByteArray) (bt a0 x5_1) (wrap64 (x5_1 + 1))) else (if x4_1 = 60 then (spec_Apart.l0 k1 a0 (⟨#[]⟩ : ByteArray) (bt a0 x5_1) (wrap64 (x5_1 + 1))) else (if x4_1 = 43 then (spec_Apart.l0 k1 a0 (⟨#[]⟩ : ByteArray) (bt a0 x5_1) (wrap64 (x5_1 + 1))) else (if x4_1 = 45 then (spec_Apart.l0 k1 a0 (⟨#[]⟩ : ByteArray) (bt a0 x5_1) (wrap64 (x5_1 + 1))) else (if x4_1 = 42 then (spec_Apart.l0 k1 a0 (⟨#[]⟩ : ByteArray) (bt a0 x5_1) (wrap64 (x5_1 + 1))) else (if x4_1 = 47 then (spec_Apart.l0 k1 a0 (⟨#[]⟩ : ByteArray) (bt a0 x5_1) (wrap64 (x5_1 + 1))) else (some false)))))))))))))) else (spec_Apart.l0 k1 a0 (⟨#[]⟩ : ByteArray) (bt a0 x5_1) (wrap64 (x5_1 + 1)))) = some r := by rw [if_pos rfl] at H; exact H
         clear H
         have H := H1
         clear H1
         by_cases c16 : x4_1 = 11
         ·rw [if_pos c16] at H
          have c16b0 : (x4_1 == 11) = true := beq_iff_eq.mpr c16
          have c16b1 : (x4_1 != 11) = false := bne_eq_false_iff_eq.mpr c16
          have K_16 := Aside0.mk c16
          clear c16
          by_cases c17 : x4_1 = 40
          ·exact absurd (K_16.out.symm.trans c17) (by decide)
          ·rw [if_neg c17] at H
           have c17b0 : (x4_1 == 40) = false := beq_eq_false_iff_ne.mpr c17
           have c17b1 : (x4_1 != 40) = true := bne_iff_ne.mpr c17
           by_cases c18 : x4_1 = 41
           ·exact absurd (K_16.out.symm.trans c18) (by decide)
           ·rw [if_neg c18] at H
            have c18b0 : (x4_1 == 41) = false := beq_eq_false_iff_ne.mpr c18
            have c18b1 : (x4_1 != 41) = true := bne_iff_ne.mpr c18
            by_cases c19 : x4_1 = 124
            ·exact absurd (K_16.out.symm.trans c19) (by decide)
            ·rw [if_neg c19] at H
             have c19b0 : (x4_1 == 124) = false := beq_eq_false_iff_ne.mpr c19
             have c19b1 : (x4_1 != 124) = true := bne_iff_ne.mpr c19
             by_cases c20 : x4_1 = 38
             ·exact absurd (K_16.out.symm.trans c20) (by decide)
             ·rw [if_neg c20] at H
              have c20b0 : (x4_1 == 38) = false := beq_eq_false_iff_ne.mpr c20
              have c20b1 : (x4_1 != 38) = true := bne_iff_ne.mpr c20
              by_cases c21 : x4_1 = 44
              ·exact absurd (K_16.out.symm.trans c21) (by decide)
              ·rw [if_neg c21] at H
               have c21b0 : (x4_1 == 44) = false := beq_eq_false_iff_ne.mpr c21
               have c21b1 : (x4_1 != 44) = true := bne_iff_ne.mpr c21
               by_cases c22 : x4_1 = 61
               ·exact absurd (K_16.out.symm.trans c22) (by decide)
               ·rw [if_neg c22] at H
                have c22b0 : (x4_1 == 61) = false := beq_eq_false_iff_ne.mpr c22
                have c22b1 : (x4_1 != 61) = true := bne_iff_ne.mpr c22
                by_cases c23 : x4_1 = 33
                ·exact absurd (K_16.out.symm.trans c23) (by decide)
                ·rw [if_neg c23] at H
                 have c23b0 : (x4_1 == 33) = false := beq_eq_false_iff_ne.mpr c23
                 have c23b1 : (x4_1 != 33) = true := bne_iff_ne.mpr c23
                 by_cases c24 : x4_1 = 62
                 ·exact absurd (K_16.out.symm.trans c24) (by decide)
                 ·rw [if_neg c24] at H
                  have c24b0 : (x4_1 == 62) = false := beq_eq_false_iff_ne.mpr c24
                  have c24b1 : (x4_1 != 62) = true := bne_iff_ne.mpr c24
                  by_cases c25 : x4_1 = 60
                  ·exact absurd (K_16.out.symm.trans c25) (by decide)
                  ·rw [if_neg c25] at H
                   have c25b0 : (x4_1 == 60) = false := beq_eq_false_iff_ne.mpr c25
                   have c25b1 : (x4_1 != 60) = true := bne_iff_ne.mpr c25
                   by_cases c26 : x4_1 = 43
                   ·exact absurd (K_16.out.symm.trans c26) (by decide)
                   ·rw [if_neg c26] at H
                    have c26b0 : (x4_1 == 43) = false := beq_eq_false_iff_ne.mpr c26
                    have c26b1 : (x4_1 != 43) = true := bne_iff_ne.mpr c26
                    by_cases c27 : x4_1 = 45
                    ·exact absurd (K_16.out.symm.trans c27) (by decide)
                    ·rw [if_neg c27] at H
                     have c27b0 : (x4_1 == 45) = false := beq_eq_false_iff_ne.mpr c27
                     have c27b1 : (x4_1 != 45) = true := bne_iff_ne.mpr c27
                     by_cases c28 : x4_1 = 42
                     ·exact absurd (K_16.out.symm.trans c28) (by decide)
                     ·rw [if_neg c28] at H
                      have c28b0 : (x4_1 == 42) = false := beq_eq_false_iff_ne.mpr c28
                      have c28b1 : (x4_1 != 42) = true := bne_iff_ne.mpr c28
                      by_cases c29 : x4_1 = 47
                      ·exact absurd (K_16.out.symm.trans c29) (by decide)
                      ·rw [if_neg c29] at H
                       have c29b0 : (x4_1 == 47) = false := beq_eq_false_iff_ne.mpr c29
                       have c29b1 : (x4_1 != 47) = true := bne_iff_ne.mpr c29
                       obtain rfl := Option.some.inj H
                       have p4 : 0 ≤ (x5_1 : Int) := odt
                       have q4 : x5_1 < (a0.size : Int) := odt
                       have hx4 := bt_at a0 x5_1
                       replace p4 := eq_true p4
                       replace q4 := eq_true q4
                       go_wp2_with (first | ((with_reducible refine gate_callee (f := 45) rfl ?_); refine goesL_ (some 17) rfl rfl Tryz.func45 (by kernel_rfl) rfl #[.int .u8 (bt a0 x5_1)] rfl (by (try simp only [List.map_toArray, List.map_cons, List.map_nil]); first | done | rfl | (simp only [List.length_drop, List.length_take]; rfl)) ?_; (with_reducible refine (spec_WordByte.calls (bt a0 x5_1) false _ A5.out).mono ?_); rintro e w' ⟨rfl, ⟨nd, rfl⟩⟩; refine ⟨_, rfl, ?_⟩) | (go_at_call 46; (with_reducible refine (spec_Definition.calls k1 x3_1 true _ A12.out).mono ?_); rintro e w' ⟨rfl, ⟨nd, rfl⟩⟩) | (go_at_call 47; (with_reducible refine (spec_Blank.calls x4_1 true _ A14.out).mono ?_); rintro e w' ⟨rfl, ⟨nd, rfl⟩⟩))
                       go_ret
                       exact ⟨by first | rfl | (simp; done) | (simp [*]; done), by repeat (first | exact Drawn0.refl _ | apply Drawn0.step)⟩
         ·rw [if_neg c16] at H
          have c16b0 : (x4_1 == 11) = false := beq_eq_false_iff_ne.mpr c16
          have c16b1 : (x4_1 != 11) = true := bne_iff_ne.mpr c16
          have H' := Aside0.mk H
          clear H
          have p4 : 0 ≤ (x5_1 : Int) := odt
          have q4 : x5_1 < (a0.size : Int) := odt
          have hx4 := bt_at a0 x5_1
          replace p4 := eq_true p4
          replace q4 := eq_true q4
          go_wp2_with (first | ((with_reducible refine gate_callee (f := 45) rfl ?_); refine goesL_ (some 17) rfl rfl Tryz.func45 (by kernel_rfl) rfl #[.int .u8 (bt a0 x5_1)] rfl (by (try simp only [List.map_toArray, List.map_cons, List.map_nil]); first | done | rfl | (simp only [List.length_drop, List.length_take]; rfl)) ?_; (with_reducible refine (spec_WordByte.calls (bt a0 x5_1) false _ A5.out).mono ?_); rintro e w' ⟨rfl, ⟨nd, rfl⟩⟩; refine ⟨_, rfl, ?_⟩) | (go_at_call 46; (with_reducible refine (spec_Definition.calls k1 x3_1 true _ A12.out).mono ?_); rintro e w' ⟨rfl, ⟨nd, rfl⟩⟩) | (go_at_call 47; (with_reducible refine (spec_Blank.calls x4_1 true _ A14.out).mono ?_); rintro e w' ⟨rfl, ⟨nd, rfl⟩⟩))
          all_goals
           go_roundg k1
           case measure => have := HK1.out; omega
           case rel => exact ⟨((⟨#[]⟩ : ByteArray)), (bt a0 x5_1), (wrap64 (x5_1 + 1)), orf, orf, orf, H', ⟨by have := HK1.out; omega⟩, by repeat (first | exact Drawn0.refl _ | apply Drawn0.step)⟩
        ·replace c15 := Bool.eq_false_iff.mpr c15
         subst c15
         have H1 : (if x4_1 = 40 then (spec_Apart.l0 k1 a0 (⟨#[]⟩ : ByteArray) (bt a0 x5_1) (wrap64 (x5_1 + 1))) else (if x4_1 = 41 then (spec_Apart.l0 k1 a0 (⟨#[]⟩ : ByteArray) (bt a0 x5_1) (wrap64 (x5_1 + 1))) else (if x4_1 = 124 then (spec_Apart.l0 k1 a0 (⟨#[]⟩ : ByteArray) (bt a0 x5_1) (wrap64 (x5_1 + 1))) else (if x4_1 = 38 then (spec_Apart.l0 k1 a0 (⟨#[]⟩ : ByteArray) (bt a0 x5_1) (wrap64 (x5_1 + 1))) else (if x4_1 = 44 then (spec_Apart.l0 k1 a0 (⟨#[]⟩ : ByteArray) (bt a0 x5_1) (wrap64 (x5_1 + 1))) else (if x4_1 = 61 then (spec_Apart.l0 k1 a0 (⟨#[]⟩ : ByteArray) (bt a0 x5_1) (wrap64 (x5_1 + 1))) else (if x4_1 = 33 then (spec_Apart.l0 k1 a0 (⟨#[]⟩ : ByteArray) (bt a0 x5_1) (wrap64 (x5_1 + 1))) else (if x4_1 = 62 then (spec_Apart.l0 k1 a0 (⟨#[]⟩ : ByteArray) (bt a0 x5_1) (wrap64 (x5_1 + 1))) else (if x4_1 = 60 then (spec_Apart.l0 k1 a0 (⟨#[]⟩ : ByteArray) (bt a0 x5_1) (wrap64 (x5_1 + 1))) else (if x4_1 = 43 then (spec_Apart.l0 k1 a0 (⟨#[]⟩ : ByteArray) (bt a0 x5_1) (wrap64 (x5_1 + 1))) else (if x4_1 = 45 then (spec_Apart.l0 k1 a0 (⟨#[]⟩ : ByteArray) (bt a0 x5_1) (wrap64 (x5_1 + 1))) else (if x4_1 = 42 then (spec_Apart.l0 k1 a0 (⟨#[]⟩ : ByteArray) (bt a0 x5_1) (wrap64 (x5_1 + 1))) else (if x4_1 = 47 then (spec_Apart.l0 k1 a0 (⟨#[]⟩ : ByteArray) (bt a0 x5_1) (wrap64 (x5_1 + 1))) else (some false)))))))))))))) = some r := by rw [if_neg (show ¬ (false = true) by decide)] at H; exact H
         clear H
         have H := H1
         clear H1
         by_cases c30 : x4_1 = 40
         ·rw [if_pos c30] at H
          have c30b0 : (x4_1 == 40) = true := beq_iff_eq.mpr c30
          have c30b1 : (x4_1 != 40) = false := bne_eq_false_iff_eq.mpr c30
          clear c30
          have H' := Aside0.mk H
          clear H
          have p4 : 0 ≤ (x5_1 : Int) := odt
          have q4 : x5_1 < (a0.size : Int) := odt
          have hx4 := bt_at a0 x5_1
          replace p4 := eq_true p4
          replace q4 := eq_true q4
          go_wp2_with (first | ((with_reducible refine gate_callee (f := 45) rfl ?_); refine goesL_ (some 17) rfl rfl Tryz.func45 (by kernel_rfl) rfl #[.int .u8 (bt a0 x5_1)] rfl (by (try simp only [List.map_toArray, List.map_cons, List.map_nil]); first | done | rfl | (simp only [List.length_drop, List.length_take]; rfl)) ?_; (with_reducible refine (spec_WordByte.calls (bt a0 x5_1) false _ A5.out).mono ?_); rintro e w' ⟨rfl, ⟨nd, rfl⟩⟩; refine ⟨_, rfl, ?_⟩) | (go_at_call 46; (with_reducible refine (spec_Definition.calls k1 x3_1 true _ A12.out).mono ?_); rintro e w' ⟨rfl, ⟨nd, rfl⟩⟩) | (go_at_call 47; (with_reducible refine (spec_Blank.calls x4_1 false _ A14.out).mono ?_); rintro e w' ⟨rfl, ⟨nd, rfl⟩⟩))
          all_goals
           go_roundg k1
           case measure => have := HK1.out; omega
           case rel => exact ⟨((⟨#[]⟩ : ByteArray)), (bt a0 x5_1), (wrap64 (x5_1 + 1)), orf, orf, orf, H', ⟨by have := HK1.out; omega⟩, by repeat (first | exact Drawn0.refl _ | apply Drawn0.step)⟩
         ·rw [if_neg c30] at H
          have c30b0 : (x4_1 == 40) = false := beq_eq_false_iff_ne.mpr c30
          have c30b1 : (x4_1 != 40) = true := bne_iff_ne.mpr c30
          by_cases c31 : x4_1 = 41
          ·rw [if_pos c31] at H
           have c31b0 : (x4_1 == 41) = true := beq_iff_eq.mpr c31
           have c31b1 : (x4_1 != 41) = false := bne_eq_false_iff_eq.mpr c31
           clear c31
           have H' := Aside0.mk H
           clear H
           have p4 : 0 ≤ (x5_1 : Int) := odt
           have q4 : x5_1 < (a0.size : Int) := odt
           have hx4 := bt_at a0 x5_1
           replace p4 := eq_true p4
           replace q4 := eq_true q4
           go_wp2_with (first | ((with_reducible refine gate_callee (f := 45) rfl ?_); refine goesL_ (some 17) rfl rfl Tryz.func45 (by kernel_rfl) rfl #[.int .u8 (bt a0 x5_1)] rfl (by (try simp only [List.map_toArray, List.map_cons, List.map_nil]); first | done | rfl | (simp only [List.length_drop, List.length_take]; rfl)) ?_; (with_reducible refine (spec_WordByte.calls (bt a0 x5_1) false _ A5.out).mono ?_); rintro e w' ⟨rfl, ⟨nd, rfl⟩⟩; refine ⟨_, rfl, ?_⟩) | (go_at_call 46; (with_reducible refine (spec_Definition.calls k1 x3_1 true _ A12.out).mono ?_); rintro e w' ⟨rfl, ⟨nd, rfl⟩⟩) | (go_at_call 47; (with_reducible refine (spec_Blank.calls x4_1 false _ A14.out).mono ?_); rintro e w' ⟨rfl, ⟨nd, rfl⟩⟩))
           all_goals
            go_roundg k1
            case measure => have := HK1.out; omega
            case rel => exact ⟨((⟨#[]⟩ : ByteArray)), (bt a0 x5_1), (wrap64 (x5_1 + 1)), orf, orf, orf, H', ⟨by have := HK1.out; omega⟩, by repeat (first | exact Drawn0.refl _ | apply Drawn0.step)⟩
          ·rw [if_neg c31] at H
           have c31b0 : (x4_1 == 41) = false := beq_eq_false_iff_ne.mpr c31
           have c31b1 : (x4_1 != 41) = true := bne_iff_ne.mpr c31
           by_cases c32 : x4_1 = 124
           ·rw [if_pos c32] at H
            have c32b0 : (x4_1 == 124) = true := beq_iff_eq.mpr c32
            have c32b1 : (x4_1 != 124) = false := bne_eq_false_iff_eq.mpr c32
            clear c32
            have H' := Aside0.mk H
            clear H
            have p4 : 0 ≤ (x5_1 : Int) := odt
            have q4 : x5_1 < (a0.size : Int) := odt
            have hx4 := bt_at a0 x5_1
            replace p4 := eq_true p4
            replace q4 := eq_true q4
            go_wp2_with (first | ((with_reducible refine gate_callee (f := 45) rfl ?_); refine goesL_ (some 17) rfl rfl Tryz.func45 (by kernel_rfl) rfl #[.int .u8 (bt a0 x5_1)] rfl (by (try simp only [List.map_toArray, List.map_cons, List.map_nil]); first | done | rfl | (simp only [List.length_drop, List.length_take]; rfl)) ?_; (with_reducible refine (spec_WordByte.calls (bt a0 x5_1) false _ A5.out).mono ?_); rintro e w' ⟨rfl, ⟨nd, rfl⟩⟩; refine ⟨_, rfl, ?_⟩) | (go_at_call 46; (with_reducible refine (spec_Definition.calls k1 x3_1 true _ A12.out).mono ?_); rintro e w' ⟨rfl, ⟨nd, rfl⟩⟩) | (go_at_call 47; (with_reducible refine (spec_Blank.calls x4_1 false _ A14.out).mono ?_); rintro e w' ⟨rfl, ⟨nd, rfl⟩⟩))
            all_goals
             go_roundg k1
             case measure => have := HK1.out; omega
             case rel => exact ⟨((⟨#[]⟩ : ByteArray)), (bt a0 x5_1), (wrap64 (x5_1 + 1)), orf, orf, orf, H', ⟨by have := HK1.out; omega⟩, by repeat (first | exact Drawn0.refl _ | apply Drawn0.step)⟩
           ·rw [if_neg c32] at H
            have c32b0 : (x4_1 == 124) = false := beq_eq_false_iff_ne.mpr c32
            have c32b1 : (x4_1 != 124) = true := bne_iff_ne.mpr c32
            by_cases c33 : x4_1 = 38
            ·rw [if_pos c33] at H
             have c33b0 : (x4_1 == 38) = true := beq_iff_eq.mpr c33
             have c33b1 : (x4_1 != 38) = false := bne_eq_false_iff_eq.mpr c33
             clear c33
             have H' := Aside0.mk H
             clear H
             have p4 : 0 ≤ (x5_1 : Int) := odt
             have q4 : x5_1 < (a0.size : Int) := odt
             have hx4 := bt_at a0 x5_1
             replace p4 := eq_true p4
             replace q4 := eq_true q4
             go_wp2_with (first | ((with_reducible refine gate_callee (f := 45) rfl ?_); refine goesL_ (some 17) rfl rfl Tryz.func45 (by kernel_rfl) rfl #[.int .u8 (bt a0 x5_1)] rfl (by (try simp only [List.map_toArray, List.map_cons, List.map_nil]); first | done | rfl | (simp only [List.length_drop, List.length_take]; rfl)) ?_; (with_reducible refine (spec_WordByte.calls (bt a0 x5_1) false _ A5.out).mono ?_); rintro e w' ⟨rfl, ⟨nd, rfl⟩⟩; refine ⟨_, rfl, ?_⟩) | (go_at_call 46; (with_reducible refine (spec_Definition.calls k1 x3_1 true _ A12.out).mono ?_); rintro e w' ⟨rfl, ⟨nd, rfl⟩⟩) | (go_at_call 47; (with_reducible refine (spec_Blank.calls x4_1 false _ A14.out).mono ?_); rintro e w' ⟨rfl, ⟨nd, rfl⟩⟩))
             all_goals
              go_roundg k1
              case measure => have := HK1.out; omega
              case rel => exact ⟨((⟨#[]⟩ : ByteArray)), (bt a0 x5_1), (wrap64 (x5_1 + 1)), orf, orf, orf, H', ⟨by have := HK1.out; omega⟩, by repeat (first | exact Drawn0.refl _ | apply Drawn0.step)⟩
            ·rw [if_neg c33] at H
             have c33b0 : (x4_1 == 38) = false := beq_eq_false_iff_ne.mpr c33
             have c33b1 : (x4_1 != 38) = true := bne_iff_ne.mpr c33
             by_cases c34 : x4_1 = 44
             ·rw [if_pos c34] at H
              have c34b0 : (x4_1 == 44) = true := beq_iff_eq.mpr c34
              have c34b1 : (x4_1 != 44) = false := bne_eq_false_iff_eq.mpr c34
              clear c34
              have H' := Aside0.mk H
              clear H
              have p4 : 0 ≤ (x5_1 : Int) := odt
              have q4 : x5_1 < (a0.size : Int) := odt
              have hx4 := bt_at a0 x5_1
              replace p4 := eq_true p4
              replace q4 := eq_true q4
              go_wp2_with (first | ((with_reducible refine gate_callee (f := 45) rfl ?_); refine goesL_ (some 17) rfl rfl Tryz.func45 (by kernel_rfl) rfl #[.int .u8 (bt a0 x5_1)] rfl (by (try simp only [List.map_toArray, List.map_cons, List.map_nil]); first | done | rfl | (simp only [List.length_drop, List.length_take]; rfl)) ?_; (with_reducible refine (spec_WordByte.calls (bt a0 x5_1) false _ A5.out).mono ?_); rintro e w' ⟨rfl, ⟨nd, rfl⟩⟩; refine ⟨_, rfl, ?_⟩) | (go_at_call 46; (with_reducible refine (spec_Definition.calls k1 x3_1 true _ A12.out).mono ?_); rintro e w' ⟨rfl, ⟨nd, rfl⟩⟩) | (go_at_call 47; (with_reducible refine (spec_Blank.calls x4_1 false _ A14.out).mono ?_); rintro e w' ⟨rfl, ⟨nd, rfl⟩⟩))
              all_goals
               go_roundg k1
               case measure => have := HK1.out; omega
               case rel => exact ⟨((⟨#[]⟩ : ByteArray)), (bt a0 x5_1), (wrap64 (x5_1 + 1)), orf, orf, orf, H', ⟨by have := HK1.out; omega⟩, by repeat (first | exact Drawn0.refl _ | apply Drawn0.step)⟩
             ·rw [if_neg c34] at H
              have c34b0 : (x4_1 == 44) = false := beq_eq_false_iff_ne.mpr c34
              have c34b1 : (x4_1 != 44) = true := bne_iff_ne.mpr c34
              by_cases c35 : x4_1 = 61
              ·rw [if_pos c35] at H
               have c35b0 : (x4_1 == 61) = true := beq_iff_eq.mpr c35
               have c35b1 : (x4_1 != 61) = false := bne_eq_false_iff_eq.mpr c35
               clear c35
               have H' := Aside0.mk H
               clear H
               have p4 : 0 ≤ (x5_1 : Int) := odt
               have q4 : x5_1 < (a0.size : Int) := odt
               have hx4 := bt_at a0 x5_1
               replace p4 := eq_true p4
               replace q4 := eq_true q4
               go_wp2_with (first | ((with_reducible refine gate_callee (f := 45) rfl ?_); refine goesL_ (some 17) rfl rfl Tryz.func45 (by kernel_rfl) rfl #[.int .u8 (bt a0 x5_1)] rfl (by (try simp only [List.map_toArray, List.map_cons, List.map_nil]); first | done | rfl | (simp only [List.length_drop, List.length_take]; rfl)) ?_; (with_reducible refine (spec_WordByte.calls (bt a0 x5_1) false _ A5.out).mono ?_); rintro e w' ⟨rfl, ⟨nd, rfl⟩⟩; refine ⟨_, rfl, ?_⟩) | (go_at_call 46; (with_reducible refine (spec_Definition.calls k1 x3_1 true _ A12.out).mono ?_); rintro e w' ⟨rfl, ⟨nd, rfl⟩⟩) | (go_at_call 47; (with_reducible refine (spec_Blank.calls x4_1 false _ A14.out).mono ?_); rintro e w' ⟨rfl, ⟨nd, rfl⟩⟩))
               all_goals
                go_roundg k1
                case measure => have := HK1.out; omega
                case rel => exact ⟨((⟨#[]⟩ : ByteArray)), (bt a0 x5_1), (wrap64 (x5_1 + 1)), orf, orf, orf, H', ⟨by have := HK1.out; omega⟩, by repeat (first | exact Drawn0.refl _ | apply Drawn0.step)⟩
              ·rw [if_neg c35] at H
               have c35b0 : (x4_1 == 61) = false := beq_eq_false_iff_ne.mpr c35
               have c35b1 : (x4_1 != 61) = true := bne_iff_ne.mpr c35
               by_cases c36 : x4_1 = 33
               ·rw [if_pos c36] at H
                have c36b0 : (x4_1 == 33) = true := beq_iff_eq.mpr c36
                have c36b1 : (x4_1 != 33) = false := bne_eq_false_iff_eq.mpr c36
                clear c36
                have H' := Aside0.mk H
                clear H
                have p4 : 0 ≤ (x5_1 : Int) := odt
                have q4 : x5_1 < (a0.size : Int) := odt
                have hx4 := bt_at a0 x5_1
                replace p4 := eq_true p4
                replace q4 := eq_true q4
                go_wp2_with (first | ((with_reducible refine gate_callee (f := 45) rfl ?_); refine goesL_ (some 17) rfl rfl Tryz.func45 (by kernel_rfl) rfl #[.int .u8 (bt a0 x5_1)] rfl (by (try simp only [List.map_toArray, List.map_cons, List.map_nil]); first | done | rfl | (simp only [List.length_drop, List.length_take]; rfl)) ?_; (with_reducible refine (spec_WordByte.calls (bt a0 x5_1) false _ A5.out).mono ?_); rintro e w' ⟨rfl, ⟨nd, rfl⟩⟩; refine ⟨_, rfl, ?_⟩) | (go_at_call 46; (with_reducible refine (spec_Definition.calls k1 x3_1 true _ A12.out).mono ?_); rintro e w' ⟨rfl, ⟨nd, rfl⟩⟩) | (go_at_call 47; (with_reducible refine (spec_Blank.calls x4_1 false _ A14.out).mono ?_); rintro e w' ⟨rfl, ⟨nd, rfl⟩⟩))
                all_goals
                 go_roundg k1
                 case measure => have := HK1.out; omega
                 case rel => exact ⟨((⟨#[]⟩ : ByteArray)), (bt a0 x5_1), (wrap64 (x5_1 + 1)), orf, orf, orf, H', ⟨by have := HK1.out; omega⟩, by repeat (first | exact Drawn0.refl _ | apply Drawn0.step)⟩
               ·rw [if_neg c36] at H
                have c36b0 : (x4_1 == 33) = false := beq_eq_false_iff_ne.mpr c36
                have c36b1 : (x4_1 != 33) = true := bne_iff_ne.mpr c36
                by_cases c37 : x4_1 = 62
                ·rw [if_pos c37] at H
                 have c37b0 : (x4_1 == 62) = true := beq_iff_eq.mpr c37
                 have c37b1 : (x4_1 != 62) = false := bne_eq_false_iff_eq.mpr c37
                 clear c37
                 have H' := Aside0.mk H
                 clear H
                 have p4 : 0 ≤ (x5_1 : Int) := odt
                 have q4 : x5_1 < (a0.size : Int) := odt
                 have hx4 := bt_at a0 x5_1
                 replace p4 := eq_true p4
                 replace q4 := eq_true q4
                 go_wp2_with (first | ((with_reducible refine gate_callee (f := 45) rfl ?_); refine goesL_ (some 17) rfl rfl Tryz.func45 (by kernel_rfl) rfl #[.int .u8 (bt a0 x5_1)] rfl (by (try simp only [List.map_toArray, List.map_cons, List.map_nil]); first | done | rfl | (simp only [List.length_drop, List.length_take]; rfl)) ?_; (with_reducible refine (spec_WordByte.calls (bt a0 x5_1) false _ A5.out).mono ?_); rintro e w' ⟨rfl, ⟨nd, rfl⟩⟩; refine ⟨_, rfl, ?_⟩) | (go_at_call 46; (with_reducible refine (spec_Definition.calls k1 x3_1 true _ A12.out).mono ?_); rintro e w' ⟨rfl, ⟨nd, rfl⟩⟩) | (go_at_call 47; (with_reducible refine (spec_Blank.calls x4_1 false _ A14.out).mono ?_); rintro e w' ⟨rfl, ⟨nd, rfl⟩⟩))
                 all_goals
                  go_roundg k1
                  case measure => have := HK1.out; omega
                  case rel => exact ⟨((⟨#[]⟩ : ByteArray)), (bt a0 x5_1), (wrap64 (x5_1 + 1)), orf, orf, orf, H', ⟨by have := HK1.out; omega⟩, by repeat (first | exact Drawn0.refl _ | apply Drawn0.step)⟩
                ·rw [if_neg c37] at H
                 have c37b0 : (x4_1 == 62) = false := beq_eq_false_iff_ne.mpr c37
                 have c37b1 : (x4_1 != 62) = true := bne_iff_ne.mpr c37
                 by_cases c38 : x4_1 = 60
                 ·rw [if_pos c38] at H
                  have c38b0 : (x4_1 == 60) = true := beq_iff_eq.mpr c38
                  have c38b1 : (x4_1 != 60) = false := bne_eq_false_iff_eq.mpr c38
                  clear c38
                  have H' := Aside0.mk H
                  clear H
                  have p4 : 0 ≤ (x5_1 : Int) := odt
                  have q4 : x5_1 < (a0.size : Int) := odt
                  have hx4 := bt_at a0 x5_1
                  replace p4 := eq_true p4
                  replace q4 := eq_true q4
                  go_wp2_with (first | ((with_reducible refine gate_callee (f := 45) rfl ?_); refine goesL_ (some 17) rfl rfl Tryz.func45 (by kernel_rfl) rfl #[.int .u8 (bt a0 x5_1)] rfl (by (try simp only [List.map_toArray, List.map_cons, List.map_nil]); first | done | rfl | (simp only [List.length_drop, List.length_take]; rfl)) ?_; (with_reducible refine (spec_WordByte.calls (bt a0 x5_1) false _ A5.out).mono ?_); rintro e w' ⟨rfl, ⟨nd, rfl⟩⟩; refine ⟨_, rfl, ?_⟩) | (go_at_call 46; (with_reducible refine (spec_Definition.calls k1 x3_1 true _ A12.out).mono ?_); rintro e w' ⟨rfl, ⟨nd, rfl⟩⟩) | (go_at_call 47; (with_reducible refine (spec_Blank.calls x4_1 false _ A14.out).mono ?_); rintro e w' ⟨rfl, ⟨nd, rfl⟩⟩))
                  all_goals
                   go_roundg k1
                   case measure => have := HK1.out; omega
                   case rel => exact ⟨((⟨#[]⟩ : ByteArray)), (bt a0 x5_1), (wrap64 (x5_1 + 1)), orf, orf, orf, H', ⟨by have := HK1.out; omega⟩, by repeat (first | exact Drawn0.refl _ | apply Drawn0.step)⟩
                 ·rw [if_neg c38] at H
                  have c38b0 : (x4_1 == 60) = false := beq_eq_false_iff_ne.mpr c38
                  have c38b1 : (x4_1 != 60) = true := bne_iff_ne.mpr c38
                  by_cases c39 : x4_1 = 43
                  ·rw [if_pos c39] at H
                   have c39b0 : (x4_1 == 43) = true := beq_iff_eq.mpr c39
                   have c39b1 : (x4_1 != 43) = false := bne_eq_false_iff_eq.mpr c39
                   clear c39
                   have H' := Aside0.mk H
                   clear H
                   have p4 : 0 ≤ (x5_1 : Int) := odt
                   have q4 : x5_1 < (a0.size : Int) := odt
                   have hx4 := bt_at a0 x5_1
                   replace p4 := eq_true p4
                   replace q4 := eq_true q4
                   go_wp2_with (first | ((with_reducible refine gate_callee (f := 45) rfl ?_); refine goesL_ (some 17) rfl rfl Tryz.func45 (by kernel_rfl) rfl #[.int .u8 (bt a0 x5_1)] rfl (by (try simp only [List.map_toArray, List.map_cons, List.map_nil]); first | done | rfl | (simp only [List.length_drop, List.length_take]; rfl)) ?_; (with_reducible refine (spec_WordByte.calls (bt a0 x5_1) false _ A5.out).mono ?_); rintro e w' ⟨rfl, ⟨nd, rfl⟩⟩; refine ⟨_, rfl, ?_⟩) | (go_at_call 46; (with_reducible refine (spec_Definition.calls k1 x3_1 true _ A12.out).mono ?_); rintro e w' ⟨rfl, ⟨nd, rfl⟩⟩) | (go_at_call 47; (with_reducible refine (spec_Blank.calls x4_1 false _ A14.out).mono ?_); rintro e w' ⟨rfl, ⟨nd, rfl⟩⟩))
                   all_goals
                    go_roundg k1
                    case measure => have := HK1.out; omega
                    case rel => exact ⟨((⟨#[]⟩ : ByteArray)), (bt a0 x5_1), (wrap64 (x5_1 + 1)), orf, orf, orf, H', ⟨by have := HK1.out; omega⟩, by repeat (first | exact Drawn0.refl _ | apply Drawn0.step)⟩
                  ·rw [if_neg c39] at H
                   have c39b0 : (x4_1 == 43) = false := beq_eq_false_iff_ne.mpr c39
                   have c39b1 : (x4_1 != 43) = true := bne_iff_ne.mpr c39
                   by_cases c40 : x4_1 = 45
                   ·rw [if_pos c40] at H
                    have c40b0 : (x4_1 == 45) = true := beq_iff_eq.mpr c40
                    have c40b1 : (x4_1 != 45) = false := bne_eq_false_iff_eq.mpr c40
                    clear c40
                    have H' := Aside0.mk H
                    clear H
                    have p4 : 0 ≤ (x5_1 : Int) := odt
                    have q4 : x5_1 < (a0.size : Int) := odt
                    have hx4 := bt_at a0 x5_1
                    replace p4 := eq_true p4
                    replace q4 := eq_true q4
                    go_wp2_with (first | ((with_reducible refine gate_callee (f := 45) rfl ?_); refine goesL_ (some 17) rfl rfl Tryz.func45 (by kernel_rfl) rfl #[.int .u8 (bt a0 x5_1)] rfl (by (try simp only [List.map_toArray, List.map_cons, List.map_nil]); first | done | rfl | (simp only [List.length_drop, List.length_take]; rfl)) ?_; (with_reducible refine (spec_WordByte.calls (bt a0 x5_1) false _ A5.out).mono ?_); rintro e w' ⟨rfl, ⟨nd, rfl⟩⟩; refine ⟨_, rfl, ?_⟩) | (go_at_call 46; (with_reducible refine (spec_Definition.calls k1 x3_1 true _ A12.out).mono ?_); rintro e w' ⟨rfl, ⟨nd, rfl⟩⟩) | (go_at_call 47; (with_reducible refine (spec_Blank.calls x4_1 false _ A14.out).mono ?_); rintro e w' ⟨rfl, ⟨nd, rfl⟩⟩))
                    all_goals
                     go_roundg k1
                     case measure => have := HK1.out; omega
                     case rel => exact ⟨((⟨#[]⟩ : ByteArray)), (bt a0 x5_1), (wrap64 (x5_1 + 1)), orf, orf, orf, H', ⟨by have := HK1.out; omega⟩, by repeat (first | exact Drawn0.refl _ | apply Drawn0.step)⟩
                   ·rw [if_neg c40] at H
                    have c40b0 : (x4_1 == 45) = false := beq_eq_false_iff_ne.mpr c40
                    have c40b1 : (x4_1 != 45) = true := bne_iff_ne.mpr c40
                    by_cases c41 : x4_1 = 42
                    ·rw [if_pos c41] at H
                     have c41b0 : (x4_1 == 42) = true := beq_iff_eq.mpr c41
                     have c41b1 : (x4_1 != 42) = false := bne_eq_false_iff_eq.mpr c41
                     clear c41
                     have H' := Aside0.mk H
                     clear H
                     have p4 : 0 ≤ (x5_1 : Int) := odt
                     have q4 : x5_1 < (a0.size : Int) := odt
                     have hx4 := bt_at a0 x5_1
                     replace p4 := eq_true p4
                     replace q4 := eq_true q4
                     go_wp2_with (first | ((with_reducible refine gate_callee (f := 45) rfl ?_); refine goesL_ (some 17) rfl rfl Tryz.func45 (by kernel_rfl) rfl #[.int .u8 (bt a0 x5_1)] rfl (by (try simp only [List.map_toArray, List.map_cons, List.map_nil]); first | done | rfl | (simp only [List.length_drop, List.length_take]; rfl)) ?_; (with_reducible refine (spec_WordByte.calls (bt a0 x5_1) false _ A5.out).mono ?_); rintro e w' ⟨rfl, ⟨nd, rfl⟩⟩; refine ⟨_, rfl, ?_⟩) | (go_at_call 46; (with_reducible refine (spec_Definition.calls k1 x3_1 true _ A12.out).mono ?_); rintro e w' ⟨rfl, ⟨nd, rfl⟩⟩) | (go_at_call 47; (with_reducible refine (spec_Blank.calls x4_1 false _ A14.out).mono ?_); rintro e w' ⟨rfl, ⟨nd, rfl⟩⟩))
                     all_goals
                      go_roundg k1
                      case measure => have := HK1.out; omega
                      case rel => exact ⟨((⟨#[]⟩ : ByteArray)), (bt a0 x5_1), (wrap64 (x5_1 + 1)), orf, orf, orf, H', ⟨by have := HK1.out; omega⟩, by repeat (first | exact Drawn0.refl _ | apply Drawn0.step)⟩
                    ·rw [if_neg c41] at H
                     have c41b0 : (x4_1 == 42) = false := beq_eq_false_iff_ne.mpr c41
                     have c41b1 : (x4_1 != 42) = true := bne_iff_ne.mpr c41
                     by_cases c42 : x4_1 = 47
                     ·rw [if_pos c42] at H
                      have c42b0 : (x4_1 == 47) = true := beq_iff_eq.mpr c42
                      have c42b1 : (x4_1 != 47) = false := bne_eq_false_iff_eq.mpr c42
                      clear c42
                      have H' := Aside0.mk H
                      clear H
                      have p4 : 0 ≤ (x5_1 : Int) := odt
                      have q4 : x5_1 < (a0.size : Int) := odt
                      have hx4 := bt_at a0 x5_1
                      replace p4 := eq_true p4
                      replace q4 := eq_true q4
                      go_wp2_with (first | ((with_reducible refine gate_callee (f := 45) rfl ?_); refine goesL_ (some 17) rfl rfl Tryz.func45 (by kernel_rfl) rfl #[.int .u8 (bt a0 x5_1)] rfl (by (try simp only [List.map_toArray, List.map_cons, List.map_nil]); first | done | rfl | (simp only [List.length_drop, List.length_take]; rfl)) ?_; (with_reducible refine (spec_WordByte.calls (bt a0 x5_1) false _ A5.out).mono ?_); rintro e w' ⟨rfl, ⟨nd, rfl⟩⟩; refine ⟨_, rfl, ?_⟩) | (go_at_call 46; (with_reducible refine (spec_Definition.calls k1 x3_1 true _ A12.out).mono ?_); rintro e w' ⟨rfl, ⟨nd, rfl⟩⟩) | (go_at_call 47; (with_reducible refine (spec_Blank.calls x4_1 false _ A14.out).mono ?_); rintro e w' ⟨rfl, ⟨nd, rfl⟩⟩))
                      all_goals
                       go_roundg k1
                       case measure => have := HK1.out; omega
                       case rel => exact ⟨((⟨#[]⟩ : ByteArray)), (bt a0 x5_1), (wrap64 (x5_1 + 1)), orf, orf, orf, H', ⟨by have := HK1.out; omega⟩, by repeat (first | exact Drawn0.refl _ | apply Drawn0.step)⟩
                     ·rw [if_neg c42] at H
                      have c42b0 : (x4_1 == 47) = false := beq_eq_false_iff_ne.mpr c42
                      have c42b1 : (x4_1 != 47) = true := bne_iff_ne.mpr c42
                      obtain rfl := Option.some.inj H
                      have p4 : 0 ≤ (x5_1 : Int) := odt
                      have q4 : x5_1 < (a0.size : Int) := odt
                      have hx4 := bt_at a0 x5_1
                      replace p4 := eq_true p4
                      replace q4 := eq_true q4
                      go_wp2_with (first | ((with_reducible refine gate_callee (f := 45) rfl ?_); refine goesL_ (some 17) rfl rfl Tryz.func45 (by kernel_rfl) rfl #[.int .u8 (bt a0 x5_1)] rfl (by (try simp only [List.map_toArray, List.map_cons, List.map_nil]); first | done | rfl | (simp only [List.length_drop, List.length_take]; rfl)) ?_; (with_reducible refine (spec_WordByte.calls (bt a0 x5_1) false _ A5.out).mono ?_); rintro e w' ⟨rfl, ⟨nd, rfl⟩⟩; refine ⟨_, rfl, ?_⟩) | (go_at_call 46; (with_reducible refine (spec_Definition.calls k1 x3_1 true _ A12.out).mono ?_); rintro e w' ⟨rfl, ⟨nd, rfl⟩⟩) | (go_at_call 47; (with_reducible refine (spec_Blank.calls x4_1 false _ A14.out).mono ?_); rintro e w' ⟨rfl, ⟨nd, rfl⟩⟩))
                      go_ret
                      exact ⟨by first | rfl | (simp; done) | (simp [*]; done), by repeat (first | exact Drawn0.refl _ | apply Drawn0.step)⟩
       ·replace c13 := Bool.eq_false_iff.mpr c13
        subst c13
        have H1 : (spec_Apart.l0 k1 a0 (⟨#[]⟩ : ByteArray) (bt a0 x5_1) (wrap64 (x5_1 + 1))) = some r := by rw [if_neg (show ¬ (false = true) by decide)] at H; exact H
        clear H
        have H := H1
        clear H1
        have H' := Aside0.mk H
        clear H
        have p4 : 0 ≤ (x5_1 : Int) := odt
        have q4 : x5_1 < (a0.size : Int) := odt
        have hx4 := bt_at a0 x5_1
        replace p4 := eq_true p4
        replace q4 := eq_true q4
        go_wp2_with (first | ((with_reducible refine gate_callee (f := 45) rfl ?_); refine goesL_ (some 17) rfl rfl Tryz.func45 (by kernel_rfl) rfl #[.int .u8 (bt a0 x5_1)] rfl (by (try simp only [List.map_toArray, List.map_cons, List.map_nil]); first | done | rfl | (simp only [List.length_drop, List.length_take]; rfl)) ?_; (with_reducible refine (spec_WordByte.calls (bt a0 x5_1) false _ A5.out).mono ?_); rintro e w' ⟨rfl, ⟨nd, rfl⟩⟩; refine ⟨_, rfl, ?_⟩) | (go_at_call 46; (with_reducible refine (spec_Definition.calls k1 x3_1 false _ A12.out).mono ?_); rintro e w' ⟨rfl, ⟨nd, rfl⟩⟩))
        all_goals
         go_roundg k1
         case measure => have := HK1.out; omega
         case rel => exact ⟨((⟨#[]⟩ : ByteArray)), (bt a0 x5_1), (wrap64 (x5_1 + 1)), orf, orf, orf, H', ⟨by have := HK1.out; omega⟩, by repeat (first | exact Drawn0.refl _ | apply Drawn0.step)⟩
      ·rw [if_neg c11] at H
       have c11b0 : ((bt a0 x5_1) == 46) = false := beq_eq_false_iff_ne.mpr c11
       have c11b1 : ((bt a0 x5_1) != 46) = true := bne_iff_ne.mpr c11
       have H' := Aside0.mk H
       clear H
       have p4 : 0 ≤ (x5_1 : Int) := odt
       have q4 : x5_1 < (a0.size : Int) := odt
       have hx4 := bt_at a0 x5_1
       replace p4 := eq_true p4
       replace q4 := eq_true q4
       go_wp2_with (first | ((with_reducible refine gate_callee (f := 45) rfl ?_); refine goesL_ (some 17) rfl rfl Tryz.func45 (by kernel_rfl) rfl #[.int .u8 (bt a0 x5_1)] rfl (by (try simp only [List.map_toArray, List.map_cons, List.map_nil]); first | done | rfl | (simp only [List.length_drop, List.length_take]; rfl)) ?_; (with_reducible refine (spec_WordByte.calls (bt a0 x5_1) false _ A5.out).mono ?_); rintro e w' ⟨rfl, ⟨nd, rfl⟩⟩; refine ⟨_, rfl, ?_⟩))
       all_goals
        go_roundg k1
        case measure => have := HK1.out; omega
        case rel => exact ⟨((⟨#[]⟩ : ByteArray)), (bt a0 x5_1), (wrap64 (x5_1 + 1)), orf, orf, orf, H', ⟨by have := HK1.out; omega⟩, by repeat (first | exact Drawn0.refl _ | apply Drawn0.step)⟩
    ·rw [if_neg c3] at H
     exact absurd H (by simp)
   ·rw [if_neg c2] at H
    have c2b0 : decide (x5_1 < (a0.size : Int)) = false := decide_eq_false c2
    clear c2
    obtain rfl := Option.some.inj H
    go_wp2
    go_ret
    exact ⟨by first | rfl | (simp; done) | (simp [*]; done), by repeat (first | exact Drawn0.refl _ | apply Drawn0.step)⟩

/-! ### spec_sections: function 28 -/
def spec_sections.f  : Option ((List (S71))) := some (([(⟨(⟨#[114, 101, 113, 117, 101, 115, 116, 95, 100, 101, 102, 105, 110, 105, 116, 105, 111, 110]⟩ : ByteArray), (⟨#[114]⟩ : ByteArray)⟩ : S71), (⟨(⟨#[112, 111, 108, 105, 99, 121, 95, 100, 101, 102, 105, 110, 105, 116, 105, 111, 110]⟩ : ByteArray), (⟨#[112]⟩ : ByteArray)⟩ : S71), (⟨(⟨#[114, 111, 108, 101, 95, 100, 101, 102, 105, 110, 105, 116, 105, 111, 110]⟩ : ByteArray), (⟨#[103]⟩ : ByteArray)⟩ : S71), (⟨(⟨#[112, 111, 108, 105, 99, 121, 95, 101, 102, 102, 101, 99, 116]⟩ : ByteArray), (⟨#[101]⟩ : ByteArray)⟩ : S71), (⟨(⟨#[109, 97, 116, 99, 104, 101, 114, 115]⟩ : ByteArray), (⟨#[109]⟩ : ByteArray)⟩ : S71)] : List (S71)))
set_option maxHeartbeats 8000000 in
set_option maxRecDepth 100000 in
theorem spec_sections.calls  (r : List (S71)) (w : World) (h : spec_sections.f  = some r) :
  Calls Tryz.prog 28 #[] w fun e w' => ∃ v0_ : Value, e = .returned (v0_) ∧ Kd.R k71 71 w' w.heap.size (fun _ => True) v0_ r ∧ Below w.heap.size w w' := by
 have hu71 := Tryz.underlying71
 have HB := Aside0.mk (Below.refl w.heap.size w)
 have H : (some (([(⟨(⟨#[114, 101, 113, 117, 101, 115, 116, 95, 100, 101, 102, 105, 110, 105, 116, 105, 111, 110]⟩ : ByteArray), (⟨#[114]⟩ : ByteArray)⟩ : S71), (⟨(⟨#[112, 111, 108, 105, 99, 121, 95, 100, 101, 102, 105, 110, 105, 116, 105, 111, 110]⟩ : ByteArray), (⟨#[112]⟩ : ByteArray)⟩ : S71), (⟨(⟨#[114, 111, 108, 101, 95, 100, 101, 102, 105, 110, 105, 116, 105, 111, 110]⟩ : ByteArray), (⟨#[103]⟩ : ByteArray)⟩ : S71), (⟨(⟨#[112, 111, 108, 105, 99, 121, 95, 101, 102, 102, 101, 99, 116]⟩ : ByteArray), (⟨#[101]⟩ : ByteArray)⟩ : S71), (⟨(⟨#[109, 97, 116, 99, 104, 101, 114, 115]⟩ : ByteArray), (⟨#[109]⟩ : ByteArray)⟩ : S71)] : List (S71)))) = some r := h
 clear h
 obtain ⟨y108, hy108⟩ : ∃ y_ : List (S71), y_ = (([(⟨(⟨#[114, 101, 113, 117, 101, 115, 116, 95, 100, 101, 102, 105, 110, 105, 116, 105, 111, 110]⟩ : ByteArray), (⟨#[114]⟩ : ByteArray)⟩ : S71), (⟨(⟨#[112, 111, 108, 105, 99, 121, 95, 100, 101, 102, 105, 110, 105, 116, 105, 111, 110]⟩ : ByteArray), (⟨#[112]⟩ : ByteArray)⟩ : S71), (⟨(⟨#[114, 111, 108, 101, 95, 100, 101, 102, 105, 110, 105, 116, 105, 111, 110]⟩ : ByteArray), (⟨#[103]⟩ : ByteArray)⟩ : S71), (⟨(⟨#[112, 111, 108, 105, 99, 121, 95, 101, 102, 102, 101, 99, 116]⟩ : ByteArray), (⟨#[101]⟩ : ByteArray)⟩ : S71), (⟨(⟨#[109, 97, 116, 99, 104, 101, 114, 115]⟩ : ByteArray), (⟨#[109]⟩ : ByteArray)⟩ : S71)] : List (S71))) := ⟨_, rfl⟩
 replace H : (some y108) = some r := by first | (rw [hy108]; with_reducible exact H) | (have H2_ := (Option.bind_some _ _).symm.trans H; rw [hy108]; with_reducible exact H2_) | (have H2_ := (Option.bind_some _ _).symm.trans H; with_reducible exact H2_) | with_reducible exact H | (rw [hy108]; exact H) | exact H
 have Ny108 := Aside0.mk hy108
 clear hy108
 obtain rfl := Option.some.inj H
 go_enter Tryz.func28, Tryz.ntmps28
 go_wp2_with (first | ((with_reducible refine gate_dst (N := 6) rfl ?_); refine Kd.R_lit k71 _ 71 ?hg (N := 6) ?hd (xs := ([(⟨(⟨#[114, 101, 113, 117, 101, 115, 116, 95, 100, 101, 102, 105, 110, 105, 116, 105, 111, 110]⟩ : ByteArray), (⟨#[114]⟩ : ByteArray)⟩ : S71), (⟨(⟨#[112, 111, 108, 105, 99, 121, 95, 100, 101, 102, 105, 110, 105, 116, 105, 111, 110]⟩ : ByteArray), (⟨#[112]⟩ : ByteArray)⟩ : S71), (⟨(⟨#[114, 111, 108, 101, 95, 100, 101, 102, 105, 110, 105, 116, 105, 111, 110]⟩ : ByteArray), (⟨#[103]⟩ : ByteArray)⟩ : S71), (⟨(⟨#[112, 111, 108, 105, 99, 121, 95, 101, 102, 102, 101, 99, 116]⟩ : ByteArray), (⟨#[101]⟩ : ByteArray)⟩ : S71), (⟨(⟨#[109, 97, 116, 99, 104, 101, 114, 115]⟩ : ByteArray), (⟨#[109]⟩ : ByteArray)⟩ : S71)] : List (S71))) (inner := [.string (⟨#[114, 101, 113, 117, 101, 115, 116, 95, 100, 101, 102, 105, 110, 105, 116, 105, 111, 110]⟩ : ByteArray), .string (⟨#[114]⟩ : ByteArray), .string (⟨#[112, 111, 108, 105, 99, 121, 95, 100, 101, 102, 105, 110, 105, 116, 105, 111, 110]⟩ : ByteArray), .string (⟨#[112]⟩ : ByteArray), .string (⟨#[114, 111, 108, 101, 95, 100, 101, 102, 105, 110, 105, 116, 105, 111, 110]⟩ : ByteArray), .string (⟨#[103]⟩ : ByteArray), .string (⟨#[112, 111, 108, 105, 99, 121, 95, 101, 102, 102, 101, 99, 116]⟩ : ByteArray), .string (⟨#[101]⟩ : ByteArray), .string (⟨#[109, 97, 116, 99, 104, 101, 114, 115]⟩ : ByteArray), .string (⟨#[109]⟩ : ByteArray)]) (ok := fun _ => True) (okp := fun _ => True) ?hr ?hp (fun _ hk => hk) trivial (Below.refl _ _) (Nat.le_refl _) (by simp) ?_; (case hd => rfl); (case hg => rfl); (case hr => first | (go_simp; done) | (go_simp; rfl)); (case hp => exact (Reps.c2 (show Kd.M k71 _ _ _ (⟨(⟨#[114, 101, 113, 117, 101, 115, 116, 95, 100, 101, 102, 105, 110, 105, 116, 105, 111, 110]⟩ : ByteArray), (⟨#[114]⟩ : ByteArray)⟩ : S71) [.string (⟨#[114, 101, 113, 117, 101, 115, 116, 95, 100, 101, 102, 105, 110, 105, 116, 105, 111, 110]⟩ : ByteArray), .string (⟨#[114]⟩ : ByteArray)] from (k71_mkM _ _ _ (⟨(⟨#[114, 101, 113, 117, 101, 115, 116, 95, 100, 101, 102, 105, 110, 105, 116, 105, 111, 110]⟩ : ByteArray), (⟨#[114]⟩ : ByteArray)⟩ : S71) )) (Reps.c2 (show Kd.M k71 _ _ _ (⟨(⟨#[112, 111, 108, 105, 99, 121, 95, 100, 101, 102, 105, 110, 105, 116, 105, 111, 110]⟩ : ByteArray), (⟨#[112]⟩ : ByteArray)⟩ : S71) [.string (⟨#[112, 111, 108, 105, 99, 121, 95, 100, 101, 102, 105, 110, 105, 116, 105, 111, 110]⟩ : ByteArray), .string (⟨#[112]⟩ : ByteArray)] from (k71_mkM _ _ _ (⟨(⟨#[112, 111, 108, 105, 99, 121, 95, 100, 101, 102, 105, 110, 105, 116, 105, 111, 110]⟩ : ByteArray), (⟨#[112]⟩ : ByteArray)⟩ : S71) )) (Reps.c2 (show Kd.M k71 _ _ _ (⟨(⟨#[114, 111, 108, 101, 95, 100, 101, 102, 105, 110, 105, 116, 105, 111, 110]⟩ : ByteArray), (⟨#[103]⟩ : ByteArray)⟩ : S71) [.string (⟨#[114, 111, 108, 101, 95, 100, 101, 102, 105, 110, 105, 116, 105, 111, 110]⟩ : ByteArray), .string (⟨#[103]⟩ : ByteArray)] from (k71_mkM _ _ _ (⟨(⟨#[114, 111, 108, 101, 95, 100, 101, 102, 105, 110, 105, 116, 105, 111, 110]⟩ : ByteArray), (⟨#[103]⟩ : ByteArray)⟩ : S71) )) (Reps.c2 (show Kd.M k71 _ _ _ (⟨(⟨#[112, 111, 108, 105, 99, 121, 95, 101, 102, 102, 101, 99, 116]⟩ : ByteArray), (⟨#[101]⟩ : ByteArray)⟩ : S71) [.string (⟨#[112, 111, 108, 105, 99, 121, 95, 101, 102, 102, 101, 99, 116]⟩ : ByteArray), .string (⟨#[101]⟩ : ByteArray)] from (k71_mkM _ _ _ (⟨(⟨#[112, 111, 108, 105, 99, 121, 95, 101, 102, 102, 101, 99, 116]⟩ : ByteArray), (⟨#[101]⟩ : ByteArray)⟩ : S71) )) (Reps.c2 (show Kd.M k71 _ _ _ (⟨(⟨#[109, 97, 116, 99, 104, 101, 114, 115]⟩ : ByteArray), (⟨#[109]⟩ : ByteArray)⟩ : S71) [.string (⟨#[109, 97, 116, 99, 104, 101, 114, 115]⟩ : ByteArray), .string (⟨#[109]⟩ : ByteArray)] from (k71_mkM _ _ _ (⟨(⟨#[109, 97, 116, 99, 104, 101, 114, 115]⟩ : ByteArray), (⟨#[109]⟩ : ByteArray)⟩ : S71) )) (Reps.none _ _))))))); intro v109 w1 ho2 hb hg_ hnew_; clear hg_ hnew_; (first | rw [← Ny108.out] at ho2 | (simp only [Int.reduceToNat] at ho2; rw [← Ny108.out] at ho2)); have n0_ := Aside0.mk (Kd.R_lower ho2 (below_size (by repeat (first | (with_reducible first | exact HB.out | apply below_alloc | apply pw_below_drewN | apply below_drew1) | exact HB.out)))); have n1_ := Aside0.mk (below_step (by repeat (first | (with_reducible first | exact HB.out | apply below_alloc | apply pw_below_drewN | apply below_drew1) | exact HB.out)) hb); clear HB; have HO110 := n0_; have HB := n1_; clear n0_ n1_; clear hb ho2))
 go_ret
 exact ⟨_, by first | rfl | (simp [errW_none, errW_some] <;> rfl) | (simp [*, errW_none, errW_some] <;> rfl), by (with_reducible repeat (first | apply Kd.R_alloc | apply Kd.R_drewN | apply Kd.R_drew)); exact HO110.out, by repeat (first | (with_reducible first | exact HB.out | apply below_alloc | apply pw_below_drewN | apply below_drew1) | exact HB.out)⟩

/-! ### spec_defs: function 29 -/
def spec_defs.l0 : Nat → List (S28) → ByteArray → List (S28) → Int → Option ((List (S28)))
 | 0, _, _, _, _ => none
 | k + 1, x0, x1, x5, x6 => if x6 < (x0.length : Int) then (if 0 ≤ x6 then (if ((rd_T28 x0 x6).f0).toList = x1.toList then (if x5.length < 2932031007402 then (spec_defs.l0 k x0 x1 (x5 ++ [(⟨(rd_T28 x0 x6).f0, (rd_T28 x0 x6).f1, (rd_T28 x0 x6).f2⟩ : S28)]) (wrap64 (x6 + 1))) else (none)) else (spec_defs.l0 k x0 x1 x5 (wrap64 (x6 + 1)))) else (none)) else (some x5)
def spec_defs.f (k : Nat) (l0 : List (S28)) (a1 : ByteArray) : Option ((List (S28))) := spec_defs.l0 k l0 a1 ([] : List (S28)) 0
theorem spec_defs.mono_l : ∀ k, (∀ y0 y1 y2 y3, LeO (spec_defs.l0 k y0 y1 y2 y3) (spec_defs.l0 (k + 1) y0 y1 y2 y3))
 | 0 => fun _ _ _ _ r h => by simp [spec_defs.l0] at h
 | k + 1 => by
  have ih0 := spec_defs.mono_l k
  ·intro y0 y1 y2 y3
   unfold spec_defs.l0
   repeat' first
   | (with_reducible exact ih0 _ _ _ _)
   | (with_reducible exact LeO.refl _)
   | (with_reducible exact LeO.none _)
   | (with_reducible refine LeO.ite ?_ ?_)
   | (with_reducible refine LeO.bind ?_ (fun _ => ?_))
   | exact ih0 _ _ _ _
   | exact LeO.none _
   | refine LeO.ite ?_ ?_
   | refine LeO.bind ?_ (fun _ => ?_)
theorem spec_defs.mono : ∀ a0 a1 k, LeO (spec_defs.f k a0 a1) (spec_defs.f (k + 1) a0 a1) := by
 intro a0 a1 k
 have ih0 := spec_defs.mono_l k
 unfold spec_defs.f
 repeat' first
   | (with_reducible exact ih0 _ _ _ _)
   | (with_reducible exact LeO.refl _)
   | (with_reducible exact LeO.none _)
   | (with_reducible refine LeO.ite ?_ ?_)
   | (with_reducible refine LeO.bind ?_ (fun _ => ?_))
   | exact ih0 _ _ _ _
   | exact LeO.none _
   | refine LeO.ite ?_ ?_
   | refine LeO.bind ?_ (fun _ => ?_)
set_option maxHeartbeats 8000000 in
set_option maxRecDepth 100000 in
theorem spec_defs.calls (k : Nat) (A0 : Option Addr) (c0 : Nat) (l0 : List (S28)) (a1 : ByteArray) (r : List (S28)) (w : World) (hr0 : Kd.C k28 w A0 l0.length l0) (hc0 : l0.length ≤ c0) (h : spec_defs.f k l0 a1 = some r) :
  Calls Tryz.prog 29 #[.slice A0 l0.length c0, .string a1] w fun e w' => ∃ v0_ : Value, e = .returned (v0_) ∧ Kd.R k28 28 w' w.heap.size (fun _ => True) v0_ r ∧ Below w.heap.size w w' := by
 have hu28 := Tryz.underlying28
 have HR0 := Aside0.mk hr0
 have HC0 := Aside0.mk hc0
 clear hr0 hc0
 have HB := Aside0.mk (Below.refl w.heap.size w)
 have H : (spec_defs.l0 k l0 a1 ([] : List (S28)) 0) = some r := h
 clear h
 have H' := Aside0.mk H
 clear H
 go_enter Tryz.func29, Tryz.ntmps29
 go_wp2
 go_loopg [5, 6] k (fun kq v5 v6 w' => ∃ (x5_1 : List (S28)) (x6_1 : Int), v6 = .int .i64 x6_1 ∧ Aside0 (spec_defs.l0 kq l0 a1 x5_1 x6_1 = some r) ∧ Aside0 (kq ≤ k) ∧ Aside0 (Kd.R k28 28 w' w.heap.size (fun _ => True) v5 x5_1) ∧ Aside0 (Below w.heap.size w w'))
 case atStart => exact ⟨(([] : List (S28))), (0), orf, H', ⟨Nat.le_refl _⟩, ⟨by first | exact Kd.R_nil _ _ _ _ _ | exact Kd.N_nil _ _ _ _ _ | exact Kd.V_nil _ _ _ _ _ | exact Kd.Q_nil _ _ _ _ _ | exact Kd.S_nil _ _ _ _ _⟩, ⟨by repeat (first | (with_reducible first | exact HB.out | apply below_alloc | apply pw_below_drewN | apply below_drew1) | exact HB.out)⟩⟩
 case round =>
  clear H'
  try clear c2
  try clear p2
  obtain ⟨x5_1, x6_1, rfl, HA, HK1, HO_5, HB⟩ := hrel
  cases gk with
  | zero => exact absurd HA.out (by simp [spec_defs.l0])
  | succ k1 =>
   have H := HA.out
   clear HA
   simp only [spec_defs.l0] at H
   by_cases c3 : x6_1 < (l0.length : Int)
   ·rw [if_pos c3] at H
    have c3b0 : decide (x6_1 < (l0.length : Int)) = true := decide_eq_true c3
    clear c3
    by_cases c4 : 0 ≤ x6_1
    ·rw [if_pos c4] at H
     have c4b0 : decide (0 ≤ x6_1) = true := decide_eq_true c4
     clear c4
     by_cases c5 : ((rd_T28 l0 x6_1).f0).toList = a1.toList
     ·rw [if_pos c5] at H
      have c5b0 : (((rd_T28 l0 x6_1).f0).toList == a1.toList) = true := beq_iff_eq.mpr c5
      have c5b1 : (((rd_T28 l0 x6_1).f0).toList != a1.toList) = false := bne_eq_false_iff_eq.mpr c5
      clear c5
      by_cases c6 : x5_1.length < 2932031007402
      ·rw [if_pos c6] at H
       have LMc6 := Aside0.mk c6
       clear c6
       obtain ⟨y113, hy113⟩ : ∃ y_ : List (S28), y_ = (x5_1 ++ [(⟨(rd_T28 l0 x6_1).f0, (rd_T28 l0 x6_1).f1, (rd_T28 l0 x6_1).f2⟩ : S28)]) := ⟨_, rfl⟩
       replace H : (spec_defs.l0 k1 l0 a1 y113 (wrap64 (x6_1 + 1))) = some r := by first | (rw [hy113]; with_reducible exact H) | (have H2_ := (Option.bind_some _ _).symm.trans H; rw [hy113]; with_reducible exact H2_) | (have H2_ := (Option.bind_some _ _).symm.trans H; with_reducible exact H2_) | with_reducible exact H | (rw [hy113]; exact H) | exact H
       have Ny113 := Aside0.mk hy113
       clear hy113
       have H' := Aside0.mk H
       clear H
       have p111 : 0 ≤ (x6_1 : Int) := odt
       have q111 : x6_1 < (l0.length : Int) := odt
       obtain ⟨ad111, e111, hx111_0, hx111_1, hx111_2⟩ := at_T28 HR0.out x6_1 p111 q111
       cases e111
       replace hx111_0 := (HB.out.cell (World.block_lt_of_cell? w _ hx111_0)).trans hx111_0
       replace hx111_1 := (HB.out.cell (World.block_lt_of_cell? w _ hx111_1)).trans hx111_1
       replace hx111_2 := (HB.out.cell (World.block_lt_of_cell? w _ hx111_2)).trans hx111_2
       replace p111 := eq_true p111
       replace q111 := eq_true q111
       have p112 : 0 ≤ (x6_1 : Int) := odt
       have q112 : x6_1 < (l0.length : Int) := odt
       obtain ⟨ad112, e112, hx112_0, hx112_1, hx112_2⟩ := at_T28 HR0.out x6_1 p112 q112
       obtain rfl : ad111 = ad112 := (by injection e112)
       replace hx112_0 := (HB.out.cell (World.block_lt_of_cell? w _ hx112_0)).trans hx112_0
       replace hx112_1 := (HB.out.cell (World.block_lt_of_cell? w _ hx112_1)).trans hx112_1
       replace hx112_2 := (HB.out.cell (World.block_lt_of_cell? w _ hx112_2)).trans hx112_2
       replace p112 := eq_true p112
       replace q112 := eq_true q112
       go_wp2_with (first | ((with_reducible refine gate_builtin (b := .append) (xs := #[.tmp 20, .tmp 25]) rfl ?_); at_builtin; refine Kd.R_append k28 (w0 := w) w.heap.size rfl (.tmp 20) (.tmp 25) 22 28 (.agg #[(.string ⟨#[]⟩), (.string ⟨#[]⟩), (.string ⟨#[]⟩)]) 48 rfl Tryz.underlying22 info28 rfl (by decide) (by omega) u5 x5_1 (⟨(rd_T28 l0 x6_1).f0, (rd_T28 l0 x6_1).f1, (rd_T28 l0 x6_1).f2⟩ : S28) [.string ((rd_T28 l0 x6_1).f0), .string ((rd_T28 l0 x6_1).f1), .string ((rd_T28 l0 x6_1).f2)] (fun _ => True) (fun _ => False) rfl rfl ?aP (fun _ hk => hk.elim) ?aF ?aO ?aB ?aS ?aL ?_; (case aP => exact k28_mkM _ _ _ (⟨(rd_T28 l0 x6_1).f0, (rd_T28 l0 x6_1).f1, (rd_T28 l0 x6_1).f2⟩ : S28)); (case aB => exact (by repeat (first | (with_reducible first | exact HB.out | apply below_alloc | apply pw_below_drewN | apply below_drew1) | exact HB.out))); (case aF => exact (fun _ _ => trivial)); (case aO => exact (by (with_reducible repeat (first | apply Kd.R_alloc | apply Kd.R_drewN | apply Kd.R_drew)); exact HO_5.out)); (case aS => exact (below_size (by repeat (first | (with_reducible first | exact HB.out | apply below_alloc | apply pw_below_drewN | apply below_drew1) | exact HB.out)))); (case aL => have := LMc6.out; omega); intro v114 w7 ho hb hg hat; rw [← Ny113.out] at ho; have n0_ := Aside0.mk (hb); have n1_ := Aside0.mk (ho); clear HB; clear HO_5; have HB := n0_; have HO115 := n1_; clear n0_ n1_; clear ho hb hg hat))
       all_goals
        go_roundg k1
        case measure => have := HK1.out; omega
        case rel => exact ⟨(y113), (wrap64 (x6_1 + 1)), orf, H', ⟨by have := HK1.out; omega⟩, ⟨by (with_reducible repeat (first | apply Kd.R_alloc | apply Kd.R_drewN | apply Kd.R_drew)); exact HO115.out⟩, ⟨by repeat (first | (with_reducible first | exact HB.out | apply below_alloc | apply pw_below_drewN | apply below_drew1) | exact HB.out)⟩⟩
      ·rw [if_neg c6] at H
       exact absurd H (by simp)
     ·rw [if_neg c5] at H
      have c5b0 : (((rd_T28 l0 x6_1).f0).toList == a1.toList) = false := beq_eq_false_iff_ne.mpr c5
      have c5b1 : (((rd_T28 l0 x6_1).f0).toList != a1.toList) = true := bne_iff_ne.mpr c5
      have H' := Aside0.mk H
      clear H
      have p111 : 0 ≤ (x6_1 : Int) := odt
      have q111 : x6_1 < (l0.length : Int) := odt
      obtain ⟨ad111, e111, hx111_0, hx111_1, hx111_2⟩ := at_T28 HR0.out x6_1 p111 q111
      cases e111
      replace hx111_0 := (HB.out.cell (World.block_lt_of_cell? w _ hx111_0)).trans hx111_0
      replace hx111_1 := (HB.out.cell (World.block_lt_of_cell? w _ hx111_1)).trans hx111_1
      replace hx111_2 := (HB.out.cell (World.block_lt_of_cell? w _ hx111_2)).trans hx111_2
      replace p111 := eq_true p111
      replace q111 := eq_true q111
      go_wp2
      all_goals
       go_roundg k1
       case measure => have := HK1.out; omega
       case rel => exact ⟨(x5_1), (wrap64 (x6_1 + 1)), orf, H', ⟨by have := HK1.out; omega⟩, ⟨by (with_reducible repeat (first | apply Kd.R_alloc | apply Kd.R_drewN | apply Kd.R_drew)); exact HO_5.out⟩, ⟨by repeat (first | (with_reducible first | exact HB.out | apply below_alloc | apply pw_below_drewN | apply below_drew1) | exact HB.out)⟩⟩
    ·rw [if_neg c4] at H
     exact absurd H (by simp)
   ·rw [if_neg c3] at H
    have c3b0 : decide (x6_1 < (l0.length : Int)) = false := decide_eq_false c3
    clear c3
    obtain rfl := Option.some.inj H
    go_wp2
    go_ret
    exact ⟨_, by first | rfl | (simp [errW_none, errW_some] <;> rfl) | (simp [*, errW_none, errW_some] <;> rfl), by (with_reducible repeat (first | apply Kd.R_alloc | apply Kd.R_drewN | apply Kd.R_drew)); exact HO_5.out, by repeat (first | (with_reducible first | exact HB.out | apply below_alloc | apply pw_below_drewN | apply below_drew1) | exact HB.out)⟩

end Go.Proofs.YtjglpjlbnmpdfaaGreatDoor.PFnModelAdd
