/- The machine side of laws.FnModelDefs: each function of this text answers what its Lean function answers (written for this claim by a program of this session over the kit's print; no condition beyond what each theorem says). -/
import Derived.Test.YtjglpjlbnmpdfaaGreatDoorOFnModelDefsx0
import Derived.Test.YtjglpjlbnmpdfaaGreatDoorOFnModelDefsx10
namespace Go.Proofs.YtjglpjlbnmpdfaaGreatDoor.PFnModelDefs
open Go.RowKit Go.Proofs.YtjglpjlbnmpdfaaGreatDoorW.PrintWords Go.Proofs.YtjglpjlbnmpdfaaGreatDoorW.PrintLast Go.Proofs.YtjglpjlbnmpdfaaGreatDoorW.PrintMore
attribute [local go_sem] max2_int min2_int max_two min_two max_three min_three max_four min_four   -- for this text's walks alone
set_option linter.unusedVariables false
set_option linter.unusedSimpArgs false

/-! ### spec_ConfText: function 12 -/
mutual
def spec_ConfText.l0 : Nat → List (S67) → ByteArray → Int → Option (ByteArray)
 | 0, _, _, _ => none
 | k + 1, x0, x3, x4 => if x4 < (x0.length : Int) then (if 0 ≤ x4 then (if ((rd_T67 x0 x4).f0).toList = ([] : List UInt8) then (spec_ConfText.j1 k x0 x3 x4) else (if 1 + ((rd_T67 x0 x4).f0).size ≤ 9223372036854775807 then (if ((⟨#[91]⟩ : ByteArray) ++ ((rd_T67 x0 x4).f0)).size + 2 ≤ 9223372036854775807 then (if x3.size + (((⟨#[91]⟩ : ByteArray) ++ ((rd_T67 x0 x4).f0)) ++ (⟨#[93, 10]⟩ : ByteArray)).size ≤ 9223372036854775807 then (spec_ConfText.j1 k x0 (x3 ++ (((⟨#[91]⟩ : ByteArray) ++ ((rd_T67 x0 x4).f0)) ++ (⟨#[93, 10]⟩ : ByteArray))) x4) else (none)) else (none)) else (none))) else (none)) else (some x3)
def spec_ConfText.j1 : Nat → List (S67) → ByteArray → Int → Option (ByteArray)
 | 0, _, _, _ => none
 | k + 1, x0, x3, x4 => spec_ConfText.l1 k x0 x3 x4 0
def spec_ConfText.l1 : Nat → List (S67) → ByteArray → Int → Int → Option (ByteArray)
 | 0, _, _, _, _ => none
 | k + 1, x0, x3, x4, x5 => if 0 ≤ x4 then (if x4 < (x0.length : Int) then (if x5 < (((rd_T67 x0 x4).f1).length : Int) then (if (Int.tmod x5 2) = 0 then (if 0 ≤ x5 then (if 2 + (rdOf ByteArray.empty ((rd_T67 x0 x4).f1) x5).size ≤ 9223372036854775807 then (if ((⟨#[35, 32]⟩ : ByteArray) ++ (rdOf ByteArray.empty ((rd_T67 x0 x4).f1) x5)).size + 1 ≤ 9223372036854775807 then (if x3.size + (((⟨#[35, 32]⟩ : ByteArray) ++ (rdOf ByteArray.empty ((rd_T67 x0 x4).f1) x5)) ++ (⟨#[10]⟩ : ByteArray)).size ≤ 9223372036854775807 then (spec_ConfText.l1 k x0 (x3 ++ (((⟨#[35, 32]⟩ : ByteArray) ++ (rdOf ByteArray.empty ((rd_T67 x0 x4).f1) x5)) ++ (⟨#[10]⟩ : ByteArray))) x4 (wrap64 (x5 + 1))) else (none)) else (none)) else (none)) else (none)) else (if 0 ≤ x5 then (if 2 + (rdOf ByteArray.empty ((rd_T67 x0 x4).f1) x5).size ≤ 9223372036854775807 then (if ((⟨#[59, 32]⟩ : ByteArray) ++ (rdOf ByteArray.empty ((rd_T67 x0 x4).f1) x5)).size + 2 ≤ 9223372036854775807 then (if x3.size + (((⟨#[59, 32]⟩ : ByteArray) ++ (rdOf ByteArray.empty ((rd_T67 x0 x4).f1) x5)) ++ (⟨#[10, 10]⟩ : ByteArray)).size ≤ 9223372036854775807 then (spec_ConfText.l1 k x0 (x3 ++ (((⟨#[59, 32]⟩ : ByteArray) ++ (rdOf ByteArray.empty ((rd_T67 x0 x4).f1) x5)) ++ (⟨#[10, 10]⟩ : ByteArray))) x4 (wrap64 (x5 + 1))) else (none)) else (none)) else (none)) else (none))) else (spec_ConfText.l2 k x0 x3 x4 0)) else (none)) else (none)
def spec_ConfText.l2 : Nat → List (S67) → ByteArray → Int → Int → Option (ByteArray)
 | 0, _, _, _, _ => none
 | k + 1, x0, x3, x4, x6 => if 0 ≤ x4 then (if x4 < (x0.length : Int) then (if x6 < (((rd_T67 x0 x4).f2).length : Int) then (if 0 ≤ x6 then (if ((rd_T69 ((rd_T67 x0 x4).f2) x6).f0).size + 3 ≤ 9223372036854775807 then ((spec_Joined.f k ((rd_T69 ((rd_T67 x0 x4).f2) x6).f1) (⟨#[32, 92, 10, 32, 32]⟩ : ByteArray)).bind fun t171 => (if (((rd_T69 ((rd_T67 x0 x4).f2) x6).f0) ++ (⟨#[32, 61, 32]⟩ : ByteArray)).size + t171.size ≤ 9223372036854775807 then (if ((((rd_T69 ((rd_T67 x0 x4).f2) x6).f0) ++ (⟨#[32, 61, 32]⟩ : ByteArray)) ++ t171).size + 1 ≤ 9223372036854775807 then (if x3.size + (((((rd_T69 ((rd_T67 x0 x4).f2) x6).f0) ++ (⟨#[32, 61, 32]⟩ : ByteArray)) ++ t171) ++ (⟨#[10]⟩ : ByteArray)).size ≤ 9223372036854775807 then (spec_ConfText.l2 k x0 (x3 ++ (((((rd_T69 ((rd_T67 x0 x4).f2) x6).f0) ++ (⟨#[32, 61, 32]⟩ : ByteArray)) ++ t171) ++ (⟨#[10]⟩ : ByteArray))) x4 (wrap64 (x6 + 1))) else (none)) else (none)) else (none))) else (none)) else (none)) else (spec_ConfText.l0 k x0 x3 (wrap64 (x4 + 1)))) else (none)) else (none)
end
def spec_ConfText.f (k : Nat) (l0 : List (S67)) : Option (ByteArray) := spec_ConfText.l0 k l0 (⟨#[]⟩ : ByteArray) 0
theorem spec_ConfText.mono_l : ∀ k, (∀ y0 y1 y2, LeO (spec_ConfText.l0 k y0 y1 y2) (spec_ConfText.l0 (k + 1) y0 y1 y2)) ∧ (∀ y0 y1 y2, LeO (spec_ConfText.j1 k y0 y1 y2) (spec_ConfText.j1 (k + 1) y0 y1 y2)) ∧ (∀ y0 y1 y2 y3, LeO (spec_ConfText.l1 k y0 y1 y2 y3) (spec_ConfText.l1 (k + 1) y0 y1 y2 y3)) ∧ (∀ y0 y1 y2 y3, LeO (spec_ConfText.l2 k y0 y1 y2 y3) (spec_ConfText.l2 (k + 1) y0 y1 y2 y3))
 | 0 => ⟨fun _ _ _ r h => by simp [spec_ConfText.l0] at h, fun _ _ _ r h => by simp [spec_ConfText.j1] at h, fun _ _ _ _ r h => by simp [spec_ConfText.l1] at h, fun _ _ _ _ r h => by simp [spec_ConfText.l2] at h⟩
 | k + 1 => by
  obtain ⟨ih0, ih1, ih2, ih3⟩ := spec_ConfText.mono_l k
  refine ⟨?_, ?_, ?_, ?_⟩
  ·intro y0 y1 y2
   unfold spec_ConfText.l0
   repeat' first
   | (with_reducible exact ih0 _ _ _)
   | (with_reducible exact ih1 _ _ _)
   | (with_reducible exact ih2 _ _ _ _)
   | (with_reducible exact ih3 _ _ _ _)
   | (with_reducible exact spec_Joined.mono _ _ _)
   | (with_reducible exact LeO.refl _)
   | (with_reducible exact LeO.none _)
   | (with_reducible refine LeO.ite ?_ ?_)
   | (with_reducible refine LeO.bind ?_ (fun _ => ?_))
   | exact ih0 _ _ _
   | exact ih1 _ _ _
   | exact ih2 _ _ _ _
   | exact ih3 _ _ _ _
   | exact spec_Joined.mono _ _ _
   | exact LeO.none _
   | refine LeO.ite ?_ ?_
   | refine LeO.bind ?_ (fun _ => ?_)
  ·intro y0 y1 y2
   unfold spec_ConfText.j1
   repeat' first
   | (with_reducible exact ih0 _ _ _)
   | (with_reducible exact ih1 _ _ _)
   | (with_reducible exact ih2 _ _ _ _)
   | (with_reducible exact ih3 _ _ _ _)
   | (with_reducible exact spec_Joined.mono _ _ _)
   | (with_reducible exact LeO.refl _)
   | (with_reducible exact LeO.none _)
   | (with_reducible refine LeO.ite ?_ ?_)
   | (with_reducible refine LeO.bind ?_ (fun _ => ?_))
   | exact ih0 _ _ _
   | exact ih1 _ _ _
   | exact ih2 _ _ _ _
   | exact ih3 _ _ _ _
   | exact spec_Joined.mono _ _ _
   | exact LeO.none _
   | refine LeO.ite ?_ ?_
   | refine LeO.bind ?_ (fun _ => ?_)
  ·intro y0 y1 y2 y3
   unfold spec_ConfText.l1
   repeat' first
   | (with_reducible exact ih0 _ _ _)
   | (with_reducible exact ih1 _ _ _)
   | (with_reducible exact ih2 _ _ _ _)
   | (with_reducible exact ih3 _ _ _ _)
   | (with_reducible exact spec_Joined.mono _ _ _)
   | (with_reducible exact LeO.refl _)
   | (with_reducible exact LeO.none _)
   | (with_reducible refine LeO.ite ?_ ?_)
   | (with_reducible refine LeO.bind ?_ (fun _ => ?_))
   | exact ih0 _ _ _
   | exact ih1 _ _ _
   | exact ih2 _ _ _ _
   | exact ih3 _ _ _ _
   | exact spec_Joined.mono _ _ _
   | exact LeO.none _
   | refine LeO.ite ?_ ?_
   | refine LeO.bind ?_ (fun _ => ?_)
  ·intro y0 y1 y2 y3
   unfold spec_ConfText.l2
   repeat' first
   | (with_reducible exact ih0 _ _ _)
   | (with_reducible exact ih1 _ _ _)
   | (with_reducible exact ih2 _ _ _ _)
   | (with_reducible exact ih3 _ _ _ _)
   | (with_reducible exact spec_Joined.mono _ _ _)
   | (with_reducible exact LeO.refl _)
   | (with_reducible exact LeO.none _)
   | (with_reducible refine LeO.ite ?_ ?_)
   | (with_reducible refine LeO.bind ?_ (fun _ => ?_))
   | exact ih0 _ _ _
   | exact ih1 _ _ _
   | exact ih2 _ _ _ _
   | exact ih3 _ _ _ _
   | exact spec_Joined.mono _ _ _
   | exact LeO.none _
   | refine LeO.ite ?_ ?_
   | refine LeO.bind ?_ (fun _ => ?_)
theorem spec_ConfText.mono : ∀ a0 k, LeO (spec_ConfText.f k a0) (spec_ConfText.f (k + 1) a0) := by
 intro a0 k
 obtain ⟨ih0, ih1, ih2, ih3⟩ := spec_ConfText.mono_l k
 unfold spec_ConfText.f
 repeat' first
   | (with_reducible exact ih0 _ _ _)
   | (with_reducible exact ih1 _ _ _)
   | (with_reducible exact ih2 _ _ _ _)
   | (with_reducible exact ih3 _ _ _ _)
   | (with_reducible exact spec_Joined.mono _ _ _)
   | (with_reducible exact LeO.refl _)
   | (with_reducible exact LeO.none _)
   | (with_reducible refine LeO.ite ?_ ?_)
   | (with_reducible refine LeO.bind ?_ (fun _ => ?_))
   | exact ih0 _ _ _
   | exact ih1 _ _ _
   | exact ih2 _ _ _ _
   | exact ih3 _ _ _ _
   | exact spec_Joined.mono _ _ _
   | exact LeO.none _
   | refine LeO.ite ?_ ?_
   | refine LeO.bind ?_ (fun _ => ?_)
set_option maxHeartbeats 8000000 in
set_option maxRecDepth 100000 in
theorem spec_ConfText.calls (k : Nat) (A0 : Option Addr) (c0 : Nat) (l0 : List (S67)) (r : ByteArray) (w : World) (hr0 : Kd.C k67 w A0 l0.length l0) (hc0 : l0.length ≤ c0) (h : spec_ConfText.f k l0 = some r) :
  Calls Tryz.prog 12 #[.slice A0 l0.length c0] w fun e w' => e = .returned (.string r) ∧ Drawn0 w w' := by
 have HR0 := Aside0.mk hr0
 have HC0 := Aside0.mk hc0
 clear hr0 hc0
 have H : (spec_ConfText.l0 k l0 (⟨#[]⟩ : ByteArray) 0) = some r := h
 clear h
 have H' := Aside0.mk H
 clear H
 go_enter Tryz.func12, Tryz.ntmps12
 go_wp2
 repeat (go_quiet (fail); try go_wp2)
 go_loopg [3, 4] k (fun kq v3 v4 w' => ∃ (x3_1 : ByteArray) (x4_1 : Int), v3 = .string x3_1 ∧ v4 = .int .i64 x4_1 ∧ Aside0 (spec_ConfText.l0 kq l0 x3_1 x4_1 = some r) ∧ Aside0 (kq ≤ k) ∧ Drawn0 w w')
 case atStart => exact ⟨((⟨#[]⟩ : ByteArray)), (0), orf, orf, H', ⟨Nat.le_refl _⟩, by repeat (first | exact Drawn0.refl _ | apply Drawn0.step)⟩
 case round =>
  clear H'
  try clear c1
  obtain ⟨x3_1, x4_1, rfl, rfl, HA, HK1, ⟨m1, rfl⟩⟩ := hrel
  cases gk with
  | zero => exact absurd HA.out (by simp [spec_ConfText.l0])
  | succ k1 =>
   have H := HA.out
   clear HA
   simp only [spec_ConfText.l0] at H
   by_cases c2 : x4_1 < (l0.length : Int)
   ·rw [if_pos c2] at H
    have c2b0 : decide (x4_1 < (l0.length : Int)) = true := decide_eq_true c2
    clear c2
    by_cases c3 : 0 ≤ x4_1
    ·rw [if_pos c3] at H
     have c3b0 : decide (0 ≤ x4_1) = true := decide_eq_true c3
     clear c3
     have HC4 := Aside0.mk H
     clear H
     have p159 : 0 ≤ (x4_1 : Int) := odt
     have q159 : x4_1 < (l0.length : Int) := odt
     obtain ⟨ad159, A159_1, c159_1, A159_2, c159_2, e159, hx159_0, hx159_1, hx159_2, hl159_1, hi159_1, hl159_2, hi159_2⟩ := at_T67 HR0.out x4_1 p159 q159
     cases e159
     have HR159_1 := Aside0.mk hi159_1
     have HC159_1 := Aside0.mk hl159_1
     clear hi159_1 hl159_1
     have HR159_2 := Aside0.mk hi159_2
     have HC159_2 := Aside0.mk hl159_2
     clear hi159_2 hl159_2
     replace p159 := eq_true p159
     replace q159 := eq_true q159
     go_upto_if 18 with (fail)
     repeat (go_quiet (fail); go_upto_if 18 with (fail))
     go_cut [3] (fun v3 wc => ∃ (kq : Nat) (x3_3 : ByteArray), v3 = .string x3_3 ∧ Aside0 (spec_ConfText.j1 kq l0 x3_3 x4_1 = some r) ∧ Aside0 (kq ≤ k1) ∧ Drawn0 w wc)
     case first =>
      have H := HC4.out
      clear HC4
      by_cases c5 : ((rd_T67 l0 x4_1).f0).toList = ([] : List UInt8)
      ·rw [if_pos c5] at H
       have c5b0 : (((rd_T67 l0 x4_1).f0).toList == ([] : List UInt8)) = true := beq_iff_eq.mpr c5
       have c5b9 : ((rd_T67 l0 x4_1).f0).toList.isEmpty = true := by rw [c5]; rfl
       have c5b1 : (((rd_T67 l0 x4_1).f0).toList != ([] : List UInt8)) = false := bne_eq_false_iff_eq.mpr c5
       clear c5
       (first | rw [c5b0] | (simp only [i64_w, i32_w]; rw [c5b0]) | skip)
       try rw [c5b9]
       try simp only [Bool.not_true, Bool.not_false]
       have H' := Aside0.mk H
       clear H
       go_wp2
       repeat (go_quiet (fail); try go_wp2)
       go_meet
       case rel => exact ⟨_, (x3_1), orf, H', ⟨by have := HK1.out; first | omega | exact Nat.le_refl _⟩, by repeat (first | exact Drawn0.refl _ | apply Drawn0.step)⟩
      ·rw [if_neg c5] at H
       have c5b0 : (((rd_T67 l0 x4_1).f0).toList == ([] : List UInt8)) = false := beq_eq_false_iff_ne.mpr c5
       have c5b9 : ((rd_T67 l0 x4_1).f0).toList.isEmpty = false := isEmpty_no_ c5
       have c5b1 : (((rd_T67 l0 x4_1).f0).toList != ([] : List UInt8)) = true := bne_iff_ne.mpr c5
       (first | rw [c5b0] | (simp only [i64_w, i32_w]; rw [c5b0]) | skip)
       try rw [c5b9]
       try simp only [Bool.not_true, Bool.not_false]
       by_cases c6 : 1 + ((rd_T67 l0 x4_1).f0).size ≤ 9223372036854775807
       ·rw [if_pos c6] at H
        have c6b0 := eq_true c6
        have c6b1 : decide (1 + ((rd_T67 l0 x4_1).f0).size ≤ 9223372036854775807) = true := decide_eq_true c6
        try have c6b2 : (9223372036854775807 < 1 + ((rd_T67 l0 x4_1).f0).size) = False := eq_false (Nat.not_lt.2 c6)
        by_cases c7 : ((⟨#[91]⟩ : ByteArray) ++ ((rd_T67 l0 x4_1).f0)).size + 2 ≤ 9223372036854775807
        ·rw [if_pos c7] at H
         have c7n := c7
         simp only [ByteArray.size_append, Int.natCast_add, show (⟨#[91]⟩ : ByteArray).size = 1 from rfl] at c7n
         have c7m : (9223372036854775807 < 1 + ((rd_T67 l0 x4_1).f0).size + 2) = False := eq_false (by have q := c7; simp only [ByteArray.size_append, ByteArray.size_extract, show (⟨#[91]⟩ : ByteArray).size = 1 from rfl] at q; omega)
         have c7b0 := eq_true c7
         have c7b1 : decide (((⟨#[91]⟩ : ByteArray) ++ ((rd_T67 l0 x4_1).f0)).size + 2 ≤ 9223372036854775807) = true := decide_eq_true c7
         try have c7b2 : (9223372036854775807 < ((⟨#[91]⟩ : ByteArray) ++ ((rd_T67 l0 x4_1).f0)).size + 2) = False := eq_false (Nat.not_lt.2 c7)
         by_cases c8 : x3_1.size + (((⟨#[91]⟩ : ByteArray) ++ ((rd_T67 l0 x4_1).f0)) ++ (⟨#[93, 10]⟩ : ByteArray)).size ≤ 9223372036854775807
         ·rw [if_pos c8] at H
          have c8n := c8
          simp only [ByteArray.size_append, Int.natCast_add, show (⟨#[91]⟩ : ByteArray).size = 1 from rfl, show (⟨#[93, 10]⟩ : ByteArray).size = 2 from rfl] at c8n
          have c8m : (9223372036854775807 < x3_1.size + (1 + ((rd_T67 l0 x4_1).f0).size + 2)) = False := eq_false (by have q := c8; simp only [ByteArray.size_append, ByteArray.size_extract, show (⟨#[91]⟩ : ByteArray).size = 1 from rfl, show (⟨#[93, 10]⟩ : ByteArray).size = 2 from rfl] at q; omega)
          have c8b0 := eq_true c8
          have c8b1 : decide (x3_1.size + (((⟨#[91]⟩ : ByteArray) ++ ((rd_T67 l0 x4_1).f0)) ++ (⟨#[93, 10]⟩ : ByteArray)).size ≤ 9223372036854775807) = true := decide_eq_true c8
          try have c8b2 : (9223372036854775807 < x3_1.size + (((⟨#[91]⟩ : ByteArray) ++ ((rd_T67 l0 x4_1).f0)) ++ (⟨#[93, 10]⟩ : ByteArray)).size) = False := eq_false (Nat.not_lt.2 c8)
          have H' := Aside0.mk H
          clear H
          have p160 : 0 ≤ (x4_1 : Int) := odt
          have q160 : x4_1 < (l0.length : Int) := odt
          obtain ⟨ad160, A160_1, c160_1, A160_2, c160_2, e160, hx160_0, hx160_1, hx160_2, hl160_1, hi160_1, hl160_2, hi160_2⟩ := at_T67 HR0.out x4_1 p160 q160
          obtain rfl : ad159 = ad160 := (by injection e160)
          have HR160_1 := Aside0.mk hi160_1
          have HC160_1 := Aside0.mk hl160_1
          clear hi160_1 hl160_1
          have HR160_2 := Aside0.mk hi160_2
          have HC160_2 := Aside0.mk hl160_2
          clear hi160_2 hl160_2
          replace p160 := eq_true p160
          replace q160 := eq_true q160
          go_wp2
          repeat (go_quiet (fail); try go_wp2)
          go_meet
          case rel => exact ⟨_, (x3_1 ++ (((⟨#[91]⟩ : ByteArray) ++ ((rd_T67 l0 x4_1).f0)) ++ (⟨#[93, 10]⟩ : ByteArray))), orf, H', ⟨by have := HK1.out; first | omega | exact Nat.le_refl _⟩, by repeat (first | exact Drawn0.refl _ | apply Drawn0.step)⟩
         ·rw [if_neg c8] at H
          have c8n := c8
          simp only [ByteArray.size_append, Int.natCast_add, show (⟨#[91]⟩ : ByteArray).size = 1 from rfl, show (⟨#[93, 10]⟩ : ByteArray).size = 2 from rfl] at c8n
          exact absurd H (by simp)
        ·rw [if_neg c7] at H
         have c7n := c7
         simp only [ByteArray.size_append, Int.natCast_add, show (⟨#[91]⟩ : ByteArray).size = 1 from rfl] at c7n
         exact absurd H (by simp)
       ·rw [if_neg c6] at H
        exact absurd H (by simp)
     case rest =>
      clear HC4
      try clear c1
      try clear p1
      try clear q1
      try clear hx1
      try clear c2
      try clear c2b0
      try clear p2
      try clear c3
      try clear c3b0
      try clear c5
      try clear c5b0
      try clear c5b1
      try clear c6
      try clear c6b0
      try clear c6b1
      try clear c6b2
      try clear c7
      try clear c7b0
      try clear c7b1
      try clear c7b2
      try clear c8
      try clear c8b0
      try clear c8b1
      try clear c8b2
      try clear hx159_0
      try clear hx159_1
      try clear hx159_2
      try clear hx160_0
      try clear hx160_1
      try clear hx160_2
      try clear p159
      try clear p160
      try clear q159
      try clear q160
      obtain ⟨kq, x3_3, rfl, HA, HJ3, ⟨mc3, rfl⟩⟩ := hcut
      cases kq with
      | zero => exact absurd HA.out (by simp [spec_ConfText.j1])
      | succ kj3 =>
       have H := HA.out
       clear HA
       simp only [spec_ConfText.j1] at H
       have H' := Aside0.mk H
       clear H
       go_wp2
       repeat (go_quiet (fail); try go_wp2)
       go_loopg [3, 5] kj3 (fun kq v3 v5 w' => ∃ (x3_3 : ByteArray) (x5_3 : Int), v3 = .string x3_3 ∧ v5 = .int .i64 x5_3 ∧ Aside0 (spec_ConfText.l1 kq l0 x3_3 x4_1 x5_3 = some r) ∧ Aside0 (kq ≤ kj3) ∧ Drawn0 w w')
       case atStart => exact ⟨(x3_3), (0), orf, orf, H', ⟨Nat.le_refl _⟩, by repeat (first | exact Drawn0.refl _ | apply Drawn0.step)⟩
       case round =>
        clear H'
        try clear c1
        try clear p1
        try clear q1
        try clear hx1
        try clear c2
        try clear c2b0
        try clear p2
        try clear c3
        try clear c3b0
        try clear c5
        try clear c5b0
        try clear c5b1
        try clear c6
        try clear c6b0
        try clear c6b1
        try clear c6b2
        try clear c7
        try clear c7b0
        try clear c7b1
        try clear c7b2
        try clear c8
        try clear c8b0
        try clear c8b1
        try clear c8b2
        try clear hx159_0
        try clear hx159_1
        try clear hx159_2
        try clear hx160_0
        try clear hx160_1
        try clear hx160_2
        try clear p1
        try clear p159
        try clear p160
        try clear p2
        try clear q1
        try clear q159
        try clear q160
        obtain ⟨x3_3, x5_3, rfl, rfl, HA, HK3, ⟨m3, rfl⟩⟩ := hrel
        cases gk with
        | zero => exact absurd HA.out (by simp [spec_ConfText.l1])
        | succ k3 =>
         have H := HA.out
         clear HA
         simp only [spec_ConfText.l1] at H
         by_cases c9 : 0 ≤ x4_1
         ·rw [if_pos c9] at H
          have c9b0 : decide (0 ≤ x4_1) = true := decide_eq_true c9
          clear c9
          by_cases c10 : x4_1 < (l0.length : Int)
          ·rw [if_pos c10] at H
           have c10b0 : decide (x4_1 < (l0.length : Int)) = true := decide_eq_true c10
           clear c10
           by_cases c11 : x5_3 < (((rd_T67 l0 x4_1).f1).length : Int)
           ·rw [if_pos c11] at H
            have c11b0 : decide (x5_3 < (((rd_T67 l0 x4_1).f1).length : Int)) = true := decide_eq_true c11
            clear c11
            by_cases c12 : (Int.tmod x5_3 2) = 0
            ·rw [if_pos c12] at H
             have c12b0 : ((Int.tmod x5_3 2) == 0) = true := beq_iff_eq.mpr c12
             have c12b1 : ((Int.tmod x5_3 2) != 0) = false := bne_eq_false_iff_eq.mpr c12
             clear c12
             by_cases c13 : 0 ≤ x5_3
             ·rw [if_pos c13] at H
              have c13b0 : decide (0 ≤ x5_3) = true := decide_eq_true c13
              clear c13
              by_cases c14 : 2 + (rdOf ByteArray.empty ((rd_T67 l0 x4_1).f1) x5_3).size ≤ 9223372036854775807
              ·rw [if_pos c14] at H
               have c14b0 := eq_true c14
               have c14b1 : decide (2 + (rdOf ByteArray.empty ((rd_T67 l0 x4_1).f1) x5_3).size ≤ 9223372036854775807) = true := decide_eq_true c14
               try have c14b2 : (9223372036854775807 < 2 + (rdOf ByteArray.empty ((rd_T67 l0 x4_1).f1) x5_3).size) = False := eq_false (Nat.not_lt.2 c14)
               by_cases c15 : ((⟨#[35, 32]⟩ : ByteArray) ++ (rdOf ByteArray.empty ((rd_T67 l0 x4_1).f1) x5_3)).size + 1 ≤ 9223372036854775807
               ·rw [if_pos c15] at H
                have c15n := c15
                simp only [ByteArray.size_append, Int.natCast_add, show (⟨#[35, 32]⟩ : ByteArray).size = 2 from rfl] at c15n
                have c15m : (9223372036854775807 < 2 + (rdOf ByteArray.empty ((rd_T67 l0 x4_1).f1) x5_3).size + 1) = False := eq_false (by have q := c15; simp only [ByteArray.size_append, ByteArray.size_extract, show (⟨#[35, 32]⟩ : ByteArray).size = 2 from rfl] at q; omega)
                have c15b0 := eq_true c15
                have c15b1 : decide (((⟨#[35, 32]⟩ : ByteArray) ++ (rdOf ByteArray.empty ((rd_T67 l0 x4_1).f1) x5_3)).size + 1 ≤ 9223372036854775807) = true := decide_eq_true c15
                try have c15b2 : (9223372036854775807 < ((⟨#[35, 32]⟩ : ByteArray) ++ (rdOf ByteArray.empty ((rd_T67 l0 x4_1).f1) x5_3)).size + 1) = False := eq_false (Nat.not_lt.2 c15)
                by_cases c16 : x3_3.size + (((⟨#[35, 32]⟩ : ByteArray) ++ (rdOf ByteArray.empty ((rd_T67 l0 x4_1).f1) x5_3)) ++ (⟨#[10]⟩ : ByteArray)).size ≤ 9223372036854775807
                ·rw [if_pos c16] at H
                 have c16n := c16
                 simp only [ByteArray.size_append, Int.natCast_add, show (⟨#[10]⟩ : ByteArray).size = 1 from rfl, show (⟨#[35, 32]⟩ : ByteArray).size = 2 from rfl] at c16n
                 have c16m : (9223372036854775807 < x3_3.size + (2 + (rdOf ByteArray.empty ((rd_T67 l0 x4_1).f1) x5_3).size + 1)) = False := eq_false (by have q := c16; simp only [ByteArray.size_append, ByteArray.size_extract, show (⟨#[10]⟩ : ByteArray).size = 1 from rfl, show (⟨#[35, 32]⟩ : ByteArray).size = 2 from rfl] at q; omega)
                 have c16b0 := eq_true c16
                 have c16b1 : decide (x3_3.size + (((⟨#[35, 32]⟩ : ByteArray) ++ (rdOf ByteArray.empty ((rd_T67 l0 x4_1).f1) x5_3)) ++ (⟨#[10]⟩ : ByteArray)).size ≤ 9223372036854775807) = true := decide_eq_true c16
                 try have c16b2 : (9223372036854775807 < x3_3.size + (((⟨#[35, 32]⟩ : ByteArray) ++ (rdOf ByteArray.empty ((rd_T67 l0 x4_1).f1) x5_3)) ++ (⟨#[10]⟩ : ByteArray)).size) = False := eq_false (Nat.not_lt.2 c16)
                 have H' := Aside0.mk H
                 clear H
                 have p161 : 0 ≤ (x4_1 : Int) := odt
                 have q161 : x4_1 < (l0.length : Int) := odt
                 obtain ⟨ad161, A161_1, c161_1, A161_2, c161_2, e161, hx161_0, hx161_1, hx161_2, hl161_1, hi161_1, hl161_2, hi161_2⟩ := at_T67 HR0.out x4_1 p161 q161
                 obtain rfl : ad159 = ad161 := (by injection e161)
                 have HR161_1 := Aside0.mk hi161_1
                 have HC161_1 := Aside0.mk hl161_1
                 clear hi161_1 hl161_1
                 have HR161_2 := Aside0.mk hi161_2
                 have HC161_2 := Aside0.mk hl161_2
                 clear hi161_2 hl161_2
                 replace p161 := eq_true p161
                 replace q161 := eq_true q161
                 have p162 : 0 ≤ (x4_1 : Int) := odt
                 have q162 : x4_1 < (l0.length : Int) := odt
                 obtain ⟨ad162, A162_1, c162_1, A162_2, c162_2, e162, hx162_0, hx162_1, hx162_2, hl162_1, hi162_1, hl162_2, hi162_2⟩ := at_T67 HR0.out x4_1 p162 q162
                 obtain rfl : ad159 = ad162 := (by injection e162)
                 have HR162_1 := Aside0.mk hi162_1
                 have HC162_1 := Aside0.mk hl162_1
                 clear hi162_1 hl162_1
                 have HR162_2 := Aside0.mk hi162_2
                 have HC162_2 := Aside0.mk hl162_2
                 clear hi162_2 hl162_2
                 replace p162 := eq_true p162
                 replace q162 := eq_true q162
                 have ea_ := Option.some.inj (hx161_1.symm.trans hx162_1)
                 injection ea_ with ea_ en_ ec_
                 subst ea_
                 subst ec_
                 clear en_
                 have ea_ := Option.some.inj (hx161_2.symm.trans hx162_2)
                 injection ea_ with ea_ en_ ec_
                 subst ea_
                 subst ec_
                 clear en_
                 have p163 : 0 ≤ (x5_3 : Int) := odt
                 have q163 : x5_3 < (((rd_T67 l0 x4_1).f1).length : Int) := odt
                 obtain ⟨ad163, e163, hx163_0⟩ := Kd.at_string HR162_1.out x5_3 p163 q163
                 cases e163
                 replace p163 := eq_true p163
                 replace q163 := eq_true q163
                 go_wp2
                 repeat (go_quiet (fail); try go_wp2)
                 go_roundg k3
                 case measure => have := HK1.out; have := HJ3.out; have := HK3.out; omega
                 case rel => exact ⟨(x3_3 ++ (((⟨#[35, 32]⟩ : ByteArray) ++ (rdOf ByteArray.empty ((rd_T67 l0 x4_1).f1) x5_3)) ++ (⟨#[10]⟩ : ByteArray))), (wrap64 (x5_3 + 1)), orf, orf, H', ⟨by have := HK1.out; have := HJ3.out; have := HK3.out; omega⟩, by repeat (first | exact Drawn0.refl _ | apply Drawn0.step)⟩
                ·rw [if_neg c16] at H
                 have c16n := c16
                 simp only [ByteArray.size_append, Int.natCast_add, show (⟨#[10]⟩ : ByteArray).size = 1 from rfl, show (⟨#[35, 32]⟩ : ByteArray).size = 2 from rfl] at c16n
                 exact absurd H (by simp)
               ·rw [if_neg c15] at H
                have c15n := c15
                simp only [ByteArray.size_append, Int.natCast_add, show (⟨#[35, 32]⟩ : ByteArray).size = 2 from rfl] at c15n
                exact absurd H (by simp)
              ·rw [if_neg c14] at H
               exact absurd H (by simp)
             ·rw [if_neg c13] at H
              exact absurd H (by simp)
            ·rw [if_neg c12] at H
             have c12b0 : ((Int.tmod x5_3 2) == 0) = false := beq_eq_false_iff_ne.mpr c12
             have c12b1 : ((Int.tmod x5_3 2) != 0) = true := bne_iff_ne.mpr c12
             by_cases c17 : 0 ≤ x5_3
             ·rw [if_pos c17] at H
              have c17b0 : decide (0 ≤ x5_3) = true := decide_eq_true c17
              clear c17
              by_cases c18 : 2 + (rdOf ByteArray.empty ((rd_T67 l0 x4_1).f1) x5_3).size ≤ 9223372036854775807
              ·rw [if_pos c18] at H
               have c18b0 := eq_true c18
               have c18b1 : decide (2 + (rdOf ByteArray.empty ((rd_T67 l0 x4_1).f1) x5_3).size ≤ 9223372036854775807) = true := decide_eq_true c18
               try have c18b2 : (9223372036854775807 < 2 + (rdOf ByteArray.empty ((rd_T67 l0 x4_1).f1) x5_3).size) = False := eq_false (Nat.not_lt.2 c18)
               by_cases c19 : ((⟨#[59, 32]⟩ : ByteArray) ++ (rdOf ByteArray.empty ((rd_T67 l0 x4_1).f1) x5_3)).size + 2 ≤ 9223372036854775807
               ·rw [if_pos c19] at H
                have c19n := c19
                simp only [ByteArray.size_append, Int.natCast_add, show (⟨#[59, 32]⟩ : ByteArray).size = 2 from rfl] at c19n
                have c19m : (9223372036854775807 < 2 + (rdOf ByteArray.empty ((rd_T67 l0 x4_1).f1) x5_3).size + 2) = False := eq_false (by have q := c19; simp only [ByteArray.size_append, ByteArray.size_extract, show (⟨#[59, 32]⟩ : ByteArray).size = 2 from rfl] at q; omega)
                have c19b0 := eq_true c19
                have c19b1 : decide (((⟨#[59, 32]⟩ : ByteArray) ++ (rdOf ByteArray.empty ((rd_T67 l0 x4_1).f1) x5_3)).size + 2 ≤ 9223372036854775807) = true := decide_eq_true c19
                try have c19b2 : (9223372036854775807 < ((⟨#[59, 32]⟩ : ByteArray) ++ (rdOf ByteArray.empty ((rd_T67 l0 x4_1).f1) x5_3)).size + 2) = False := eq_false (Nat.not_lt.2 c19)
                by_cases c20 : x3_3.size + (((⟨#[59, 32]⟩ : ByteArray) ++ (rdOf ByteArray.empty ((rd_T67 l0 x4_1).f1) x5_3)) ++ (⟨#[10, 10]⟩ : ByteArray)).size ≤ 9223372036854775807
                ·rw [if_pos c20] at H
                 have c20n := c20
                 simp only [ByteArray.size_append, Int.natCast_add, show (⟨#[10, 10]⟩ : ByteArray).size = 2 from rfl, show (⟨#[59, 32]⟩ : ByteArray).size = 2 from rfl] at c20n
                 have c20m : (9223372036854775807 < x3_3.size + (2 + (rdOf ByteArray.empty ((rd_T67 l0 x4_1).f1) x5_3).size + 2)) = False := eq_false (by have q := c20; simp only [ByteArray.size_append, ByteArray.size_extract, show (⟨#[10, 10]⟩ : ByteArray).size = 2 from rfl, show (⟨#[59, 32]⟩ : ByteArray).size = 2 from rfl] at q; omega)
                 have c20b0 := eq_true c20
                 have c20b1 : decide (x3_3.size + (((⟨#[59, 32]⟩ : ByteArray) ++ (rdOf ByteArray.empty ((rd_T67 l0 x4_1).f1) x5_3)) ++ (⟨#[10, 10]⟩ : ByteArray)).size ≤ 9223372036854775807) = true := decide_eq_true c20
                 try have c20b2 : (9223372036854775807 < x3_3.size + (((⟨#[59, 32]⟩ : ByteArray) ++ (rdOf ByteArray.empty ((rd_T67 l0 x4_1).f1) x5_3)) ++ (⟨#[10, 10]⟩ : ByteArray)).size) = False := eq_false (Nat.not_lt.2 c20)
                 have H' := Aside0.mk H
                 clear H
                 have p161 : 0 ≤ (x4_1 : Int) := odt
                 have q161 : x4_1 < (l0.length : Int) := odt
                 obtain ⟨ad161, A161_1, c161_1, A161_2, c161_2, e161, hx161_0, hx161_1, hx161_2, hl161_1, hi161_1, hl161_2, hi161_2⟩ := at_T67 HR0.out x4_1 p161 q161
                 obtain rfl : ad159 = ad161 := (by injection e161)
                 have HR161_1 := Aside0.mk hi161_1
                 have HC161_1 := Aside0.mk hl161_1
                 clear hi161_1 hl161_1
                 have HR161_2 := Aside0.mk hi161_2
                 have HC161_2 := Aside0.mk hl161_2
                 clear hi161_2 hl161_2
                 replace p161 := eq_true p161
                 replace q161 := eq_true q161
                 have p164 : 0 ≤ (x4_1 : Int) := odt
                 have q164 : x4_1 < (l0.length : Int) := odt
                 obtain ⟨ad164, A164_1, c164_1, A164_2, c164_2, e164, hx164_0, hx164_1, hx164_2, hl164_1, hi164_1, hl164_2, hi164_2⟩ := at_T67 HR0.out x4_1 p164 q164
                 obtain rfl : ad159 = ad164 := (by injection e164)
                 have HR164_1 := Aside0.mk hi164_1
                 have HC164_1 := Aside0.mk hl164_1
                 clear hi164_1 hl164_1
                 have HR164_2 := Aside0.mk hi164_2
                 have HC164_2 := Aside0.mk hl164_2
                 clear hi164_2 hl164_2
                 replace p164 := eq_true p164
                 replace q164 := eq_true q164
                 have ea_ := Option.some.inj (hx161_1.symm.trans hx164_1)
                 injection ea_ with ea_ en_ ec_
                 subst ea_
                 subst ec_
                 clear en_
                 have ea_ := Option.some.inj (hx161_2.symm.trans hx164_2)
                 injection ea_ with ea_ en_ ec_
                 subst ea_
                 subst ec_
                 clear en_
                 have p165 : 0 ≤ (x5_3 : Int) := odt
                 have q165 : x5_3 < (((rd_T67 l0 x4_1).f1).length : Int) := odt
                 obtain ⟨ad165, e165, hx165_0⟩ := Kd.at_string HR164_1.out x5_3 p165 q165
                 cases e165
                 replace p165 := eq_true p165
                 replace q165 := eq_true q165
                 go_wp2
                 repeat (go_quiet (fail); try go_wp2)
                 go_roundg k3
                 case measure => have := HK1.out; have := HJ3.out; have := HK3.out; omega
                 case rel => exact ⟨(x3_3 ++ (((⟨#[59, 32]⟩ : ByteArray) ++ (rdOf ByteArray.empty ((rd_T67 l0 x4_1).f1) x5_3)) ++ (⟨#[10, 10]⟩ : ByteArray))), (wrap64 (x5_3 + 1)), orf, orf, H', ⟨by have := HK1.out; have := HJ3.out; have := HK3.out; omega⟩, by repeat (first | exact Drawn0.refl _ | apply Drawn0.step)⟩
                ·rw [if_neg c20] at H
                 have c20n := c20
                 simp only [ByteArray.size_append, Int.natCast_add, show (⟨#[10, 10]⟩ : ByteArray).size = 2 from rfl, show (⟨#[59, 32]⟩ : ByteArray).size = 2 from rfl] at c20n
                 exact absurd H (by simp)
               ·rw [if_neg c19] at H
                have c19n := c19
                simp only [ByteArray.size_append, Int.natCast_add, show (⟨#[59, 32]⟩ : ByteArray).size = 2 from rfl] at c19n
                exact absurd H (by simp)
              ·rw [if_neg c18] at H
               exact absurd H (by simp)
             ·rw [if_neg c17] at H
              exact absurd H (by simp)
           ·rw [if_neg c11] at H
            have c11b0 : decide (x5_3 < (((rd_T67 l0 x4_1).f1).length : Int)) = false := decide_eq_false c11
            clear c11
            have H' := Aside0.mk H
            clear H
            have p161 : 0 ≤ (x4_1 : Int) := odt
            have q161 : x4_1 < (l0.length : Int) := odt
            obtain ⟨ad161, A161_1, c161_1, A161_2, c161_2, e161, hx161_0, hx161_1, hx161_2, hl161_1, hi161_1, hl161_2, hi161_2⟩ := at_T67 HR0.out x4_1 p161 q161
            obtain rfl : ad159 = ad161 := (by injection e161)
            have HR161_1 := Aside0.mk hi161_1
            have HC161_1 := Aside0.mk hl161_1
            clear hi161_1 hl161_1
            have HR161_2 := Aside0.mk hi161_2
            have HC161_2 := Aside0.mk hl161_2
            clear hi161_2 hl161_2
            replace p161 := eq_true p161
            replace q161 := eq_true q161
            go_wp2
            repeat (go_quiet (fail); try go_wp2)
            go_loopg [3, 6] k3 (fun kq v3 v6 w' => ∃ (x3_4 : ByteArray) (x6_4 : Int), v3 = .string x3_4 ∧ v6 = .int .i64 x6_4 ∧ Aside0 (spec_ConfText.l2 kq l0 x3_4 x4_1 x6_4 = some r) ∧ Aside0 (kq ≤ k3) ∧ Drawn0 w w')
            case atStart => exact ⟨(x3_3), (0), orf, orf, H', ⟨Nat.le_refl _⟩, by repeat (first | exact Drawn0.refl _ | apply Drawn0.step)⟩
            case round =>
             clear H'
             try clear c1
             try clear p1
             try clear q1
             try clear hx1
             try clear c2
             try clear c2b0
             try clear p2
             try clear c3
             try clear c3b0
             try clear c5
             try clear c5b0
             try clear c5b1
             try clear c6
             try clear c6b0
             try clear c6b1
             try clear c6b2
             try clear p6
             try clear c7
             try clear c7b0
             try clear c7b1
             try clear c7b2
             try clear c8
             try clear c8b0
             try clear c8b1
             try clear c8b2
             try clear c9
             try clear c9b0
             try clear c10
             try clear c10b0
             try clear c11
             try clear c11b0
             try clear c12
             try clear c12b0
             try clear c12b1
             try clear c13
             try clear c13b0
             try clear c14
             try clear c14b0
             try clear c14b1
             try clear c14b2
             try clear c15
             try clear c15b0
             try clear c15b1
             try clear c15b2
             try clear p15
             try clear q15
             try clear hx15
             try clear c16
             try clear c16b0
             try clear c16b1
             try clear c16b2
             try clear p16
             try clear q16
             try clear hx16
             try clear c17
             try clear c17b0
             try clear c18
             try clear c18b0
             try clear c18b1
             try clear c18b2
             try clear c19
             try clear c19b0
             try clear c19b1
             try clear c19b2
             try clear c20
             try clear c20b0
             try clear c20b1
             try clear c20b2
             try clear hx159_0
             try clear hx159_1
             try clear hx159_2
             try clear hx160_0
             try clear hx160_1
             try clear hx160_2
             try clear hx161_0
             try clear hx161_1
             try clear hx161_2
             try clear hx162_0
             try clear hx162_1
             try clear hx162_2
             try clear hx163_0
             try clear hx164_0
             try clear hx164_1
             try clear hx164_2
             try clear hx165_0
             try clear p1
             try clear p159
             try clear p160
             try clear p161
             try clear p162
             try clear p163
             try clear p164
             try clear p165
             try clear p2
             try clear q1
             try clear q159
             try clear q160
             try clear q161
             try clear q162
             try clear q163
             try clear q164
             try clear q165
             obtain ⟨x3_4, x6_4, rfl, rfl, HA, HK4, ⟨m4, rfl⟩⟩ := hrel
             cases gk with
             | zero => exact absurd HA.out (by simp [spec_ConfText.l2])
             | succ k4 =>
              have H := HA.out
              clear HA
              simp only [spec_ConfText.l2] at H
              by_cases c21 : 0 ≤ x4_1
              ·rw [if_pos c21] at H
               have c21b0 : decide (0 ≤ x4_1) = true := decide_eq_true c21
               clear c21
               by_cases c22 : x4_1 < (l0.length : Int)
               ·rw [if_pos c22] at H
                have c22b0 : decide (x4_1 < (l0.length : Int)) = true := decide_eq_true c22
                clear c22
                by_cases c23 : x6_4 < (((rd_T67 l0 x4_1).f2).length : Int)
                ·rw [if_pos c23] at H
                 have c23b0 : decide (x6_4 < (((rd_T67 l0 x4_1).f2).length : Int)) = true := decide_eq_true c23
                 clear c23
                 by_cases c24 : 0 ≤ x6_4
                 ·rw [if_pos c24] at H
                  have c24b0 : decide (0 ≤ x6_4) = true := decide_eq_true c24
                  clear c24
                  by_cases c25 : ((rd_T69 ((rd_T67 l0 x4_1).f2) x6_4).f0).size + 3 ≤ 9223372036854775807
                  ·rw [if_pos c25] at H
                   have c25b0 := eq_true c25
                   have c25b1 : decide (((rd_T69 ((rd_T67 l0 x4_1).f2) x6_4).f0).size + 3 ≤ 9223372036854775807) = true := decide_eq_true c25
                   try have c25b2 : (9223372036854775807 < ((rd_T69 ((rd_T67 l0 x4_1).f2) x6_4).f0).size + 3) = False := eq_false (Nat.not_lt.2 c25)
                   replace H := Option.bind_eq_some_iff.mp H
                   obtain ⟨t171, A260, H⟩ := H
                   replace H : (if (((rd_T69 ((rd_T67 l0 x4_1).f2) x6_4).f0) ++ (⟨#[32, 61, 32]⟩ : ByteArray)).size + t171.size ≤ 9223372036854775807 then (if ((((rd_T69 ((rd_T67 l0 x4_1).f2) x6_4).f0) ++ (⟨#[32, 61, 32]⟩ : ByteArray)) ++ t171).size + 1 ≤ 9223372036854775807 then (if x3_4.size + (((((rd_T69 ((rd_T67 l0 x4_1).f2) x6_4).f0) ++ (⟨#[32, 61, 32]⟩ : ByteArray)) ++ t171) ++ (⟨#[10]⟩ : ByteArray)).size ≤ 9223372036854775807 then (spec_ConfText.l2 k4 l0 (x3_4 ++ (((((rd_T69 ((rd_T67 l0 x4_1).f2) x6_4).f0) ++ (⟨#[32, 61, 32]⟩ : ByteArray)) ++ t171) ++ (⟨#[10]⟩ : ByteArray))) x4_1 (wrap64 (x6_4 + 1))) else (none)) else (none)) else (none)) = some r := H
                   have A26 := Aside0.mk A260
                   clear A260
                   by_cases c27 : (((rd_T69 ((rd_T67 l0 x4_1).f2) x6_4).f0) ++ (⟨#[32, 61, 32]⟩ : ByteArray)).size + t171.size ≤ 9223372036854775807
                   ·rw [if_pos c27] at H
                    have c27n := c27
                    simp only [ByteArray.size_append, Int.natCast_add, show (⟨#[32, 61, 32]⟩ : ByteArray).size = 3 from rfl] at c27n
                    have c27m : (9223372036854775807 < ((rd_T69 ((rd_T67 l0 x4_1).f2) x6_4).f0).size + 3 + t171.size) = False := eq_false (by have q := c27; simp only [ByteArray.size_append, ByteArray.size_extract, show (⟨#[32, 61, 32]⟩ : ByteArray).size = 3 from rfl] at q; omega)
                    have c27b0 := eq_true c27
                    have c27b1 : decide ((((rd_T69 ((rd_T67 l0 x4_1).f2) x6_4).f0) ++ (⟨#[32, 61, 32]⟩ : ByteArray)).size + t171.size ≤ 9223372036854775807) = true := decide_eq_true c27
                    try have c27b2 : (9223372036854775807 < (((rd_T69 ((rd_T67 l0 x4_1).f2) x6_4).f0) ++ (⟨#[32, 61, 32]⟩ : ByteArray)).size + t171.size) = False := eq_false (Nat.not_lt.2 c27)
                    by_cases c28 : ((((rd_T69 ((rd_T67 l0 x4_1).f2) x6_4).f0) ++ (⟨#[32, 61, 32]⟩ : ByteArray)) ++ t171).size + 1 ≤ 9223372036854775807
                    ·rw [if_pos c28] at H
                     have c28n := c28
                     simp only [ByteArray.size_append, Int.natCast_add, show (⟨#[32, 61, 32]⟩ : ByteArray).size = 3 from rfl] at c28n
                     have c28m : (9223372036854775807 < ((rd_T69 ((rd_T67 l0 x4_1).f2) x6_4).f0).size + 3 + t171.size + 1) = False := eq_false (by have q := c28; simp only [ByteArray.size_append, ByteArray.size_extract, show (⟨#[32, 61, 32]⟩ : ByteArray).size = 3 from rfl] at q; omega)
                     have c28b0 := eq_true c28
                     have c28b1 : decide (((((rd_T69 ((rd_T67 l0 x4_1).f2) x6_4).f0) ++ (⟨#[32, 61, 32]⟩ : ByteArray)) ++ t171).size + 1 ≤ 9223372036854775807) = true := decide_eq_true c28
                     try have c28b2 : (9223372036854775807 < ((((rd_T69 ((rd_T67 l0 x4_1).f2) x6_4).f0) ++ (⟨#[32, 61, 32]⟩ : ByteArray)) ++ t171).size + 1) = False := eq_false (Nat.not_lt.2 c28)
                     by_cases c29 : x3_4.size + (((((rd_T69 ((rd_T67 l0 x4_1).f2) x6_4).f0) ++ (⟨#[32, 61, 32]⟩ : ByteArray)) ++ t171) ++ (⟨#[10]⟩ : ByteArray)).size ≤ 9223372036854775807
                     ·rw [if_pos c29] at H
                      have c29n := c29
                      simp only [ByteArray.size_append, Int.natCast_add, show (⟨#[10]⟩ : ByteArray).size = 1 from rfl, show (⟨#[32, 61, 32]⟩ : ByteArray).size = 3 from rfl] at c29n
                      have c29m : (9223372036854775807 < x3_4.size + (((rd_T69 ((rd_T67 l0 x4_1).f2) x6_4).f0).size + 3 + t171.size + 1)) = False := eq_false (by have q := c29; simp only [ByteArray.size_append, ByteArray.size_extract, show (⟨#[10]⟩ : ByteArray).size = 1 from rfl, show (⟨#[32, 61, 32]⟩ : ByteArray).size = 3 from rfl] at q; omega)
                      have c29b0 := eq_true c29
                      have c29b1 : decide (x3_4.size + (((((rd_T69 ((rd_T67 l0 x4_1).f2) x6_4).f0) ++ (⟨#[32, 61, 32]⟩ : ByteArray)) ++ t171) ++ (⟨#[10]⟩ : ByteArray)).size ≤ 9223372036854775807) = true := decide_eq_true c29
                      try have c29b2 : (9223372036854775807 < x3_4.size + (((((rd_T69 ((rd_T67 l0 x4_1).f2) x6_4).f0) ++ (⟨#[32, 61, 32]⟩ : ByteArray)) ++ t171) ++ (⟨#[10]⟩ : ByteArray)).size) = False := eq_false (Nat.not_lt.2 c29)
                      have H' := Aside0.mk H
                      clear H
                      have p166 : 0 ≤ (x4_1 : Int) := odt
                      have q166 : x4_1 < (l0.length : Int) := odt
                      obtain ⟨ad166, A166_1, c166_1, A166_2, c166_2, e166, hx166_0, hx166_1, hx166_2, hl166_1, hi166_1, hl166_2, hi166_2⟩ := at_T67 HR0.out x4_1 p166 q166
                      obtain rfl : ad159 = ad166 := (by injection e166)
                      have HR166_1 := Aside0.mk hi166_1
                      have HC166_1 := Aside0.mk hl166_1
                      clear hi166_1 hl166_1
                      have HR166_2 := Aside0.mk hi166_2
                      have HC166_2 := Aside0.mk hl166_2
                      clear hi166_2 hl166_2
                      replace p166 := eq_true p166
                      replace q166 := eq_true q166
                      have p167 : 0 ≤ (x4_1 : Int) := odt
                      have q167 : x4_1 < (l0.length : Int) := odt
                      obtain ⟨ad167, A167_1, c167_1, A167_2, c167_2, e167, hx167_0, hx167_1, hx167_2, hl167_1, hi167_1, hl167_2, hi167_2⟩ := at_T67 HR0.out x4_1 p167 q167
                      obtain rfl : ad159 = ad167 := (by injection e167)
                      have HR167_1 := Aside0.mk hi167_1
                      have HC167_1 := Aside0.mk hl167_1
                      clear hi167_1 hl167_1
                      have HR167_2 := Aside0.mk hi167_2
                      have HC167_2 := Aside0.mk hl167_2
                      clear hi167_2 hl167_2
                      replace p167 := eq_true p167
                      replace q167 := eq_true q167
                      have ea_ := Option.some.inj (hx166_1.symm.trans hx167_1)
                      injection ea_ with ea_ en_ ec_
                      subst ea_
                      subst ec_
                      clear en_
                      have ea_ := Option.some.inj (hx166_2.symm.trans hx167_2)
                      injection ea_ with ea_ en_ ec_
                      subst ea_
                      subst ec_
                      clear en_
                      have p168 : 0 ≤ (x6_4 : Int) := odt
                      have q168 : x6_4 < (((rd_T67 l0 x4_1).f2).length : Int) := odt
                      obtain ⟨ad168, A168_1, c168_1, e168, hx168_0, hx168_1, hl168_1, hi168_1⟩ := at_T69 HR167_2.out x6_4 p168 q168
                      cases e168
                      have HR168_1 := Aside0.mk hi168_1
                      have HC168_1 := Aside0.mk hl168_1
                      clear hi168_1 hl168_1
                      replace p168 := eq_true p168
                      replace q168 := eq_true q168
                      have p169 : 0 ≤ (x4_1 : Int) := odt
                      have q169 : x4_1 < (l0.length : Int) := odt
                      obtain ⟨ad169, A169_1, c169_1, A169_2, c169_2, e169, hx169_0, hx169_1, hx169_2, hl169_1, hi169_1, hl169_2, hi169_2⟩ := at_T67 HR0.out x4_1 p169 q169
                      obtain rfl : ad159 = ad169 := (by injection e169)
                      have HR169_1 := Aside0.mk hi169_1
                      have HC169_1 := Aside0.mk hl169_1
                      clear hi169_1 hl169_1
                      have HR169_2 := Aside0.mk hi169_2
                      have HC169_2 := Aside0.mk hl169_2
                      clear hi169_2 hl169_2
                      replace p169 := eq_true p169
                      replace q169 := eq_true q169
                      have ea_ := Option.some.inj (hx166_1.symm.trans hx169_1)
                      injection ea_ with ea_ en_ ec_
                      subst ea_
                      subst ec_
                      clear en_
                      have ea_ := Option.some.inj (hx166_2.symm.trans hx169_2)
                      injection ea_ with ea_ en_ ec_
                      subst ea_
                      subst ec_
                      clear en_
                      have p170 : 0 ≤ (x6_4 : Int) := odt
                      have q170 : x6_4 < (((rd_T67 l0 x4_1).f2).length : Int) := odt
                      obtain ⟨ad170, A170_1, c170_1, e170, hx170_0, hx170_1, hl170_1, hi170_1⟩ := at_T69 HR169_2.out x6_4 p170 q170
                      cases e170
                      have HR170_1 := Aside0.mk hi170_1
                      have HC170_1 := Aside0.mk hl170_1
                      clear hi170_1 hl170_1
                      replace p170 := eq_true p170
                      replace q170 := eq_true q170
                      go_wp2_with (first | (go_at_call 27; (with_reducible refine (spec_Joined.calls k4 _ _ ((rd_T69 ((rd_T67 l0 x4_1).f2) x6_4).f1) (⟨#[32, 92, 10, 32, 32]⟩ : ByteArray) t171 _ ?side1 ?side2 A26.out).mono ?_); (case side1 => repeat (first | exact HR168_1.out | (with_reducible refine Kd.C_alloc ?_ _) | (with_reducible refine Kd.C_drewN ?_ _) | (with_reducible refine Kd.C_drew ?_))); (case side2 => exact HC168_1.out); rintro e w' ⟨rfl, ⟨nd, rfl⟩⟩; (try first | exact ⟨rfl, _, World.drewN_drewN _ _ _⟩ | exact ⟨rfl, _, Eq.trans (World.drewN_drewN _ _ _) (congrArg (World.drewN _) (Nat.add_assoc _ _ _))⟩)))
                      repeat (go_quiet (first | (go_at_call 27; (with_reducible refine (spec_Joined.calls k4 _ _ ((rd_T69 ((rd_T67 l0 x4_1).f2) x6_4).f1) (⟨#[32, 92, 10, 32, 32]⟩ : ByteArray) t171 _ ?side1 ?side2 A26.out).mono ?_); (case side1 => repeat (first | exact HR168_1.out | (with_reducible refine Kd.C_alloc ?_ _) | (with_reducible refine Kd.C_drewN ?_ _) | (with_reducible refine Kd.C_drew ?_))); (case side2 => exact HC168_1.out); rintro e w' ⟨rfl, ⟨nd, rfl⟩⟩; (try first | exact ⟨rfl, _, World.drewN_drewN _ _ _⟩ | exact ⟨rfl, _, Eq.trans (World.drewN_drewN _ _ _) (congrArg (World.drewN _) (Nat.add_assoc _ _ _))⟩))); try go_wp2_with (first | (go_at_call 27; (with_reducible refine (spec_Joined.calls k4 _ _ ((rd_T69 ((rd_T67 l0 x4_1).f2) x6_4).f1) (⟨#[32, 92, 10, 32, 32]⟩ : ByteArray) t171 _ ?side1 ?side2 A26.out).mono ?_); (case side1 => repeat (first | exact HR168_1.out | (with_reducible refine Kd.C_alloc ?_ _) | (with_reducible refine Kd.C_drewN ?_ _) | (with_reducible refine Kd.C_drew ?_))); (case side2 => exact HC168_1.out); rintro e w' ⟨rfl, ⟨nd, rfl⟩⟩; (try first | exact ⟨rfl, _, World.drewN_drewN _ _ _⟩ | exact ⟨rfl, _, Eq.trans (World.drewN_drewN _ _ _) (congrArg (World.drewN _) (Nat.add_assoc _ _ _))⟩))))
                      go_roundg k4
                      case measure => have := HK1.out; have := HJ3.out; have := HK3.out; have := HK4.out; omega
                      case rel => exact ⟨(x3_4 ++ (((((rd_T69 ((rd_T67 l0 x4_1).f2) x6_4).f0) ++ (⟨#[32, 61, 32]⟩ : ByteArray)) ++ t171) ++ (⟨#[10]⟩ : ByteArray))), (wrap64 (x6_4 + 1)), orf, orf, H', ⟨by have := HK1.out; have := HJ3.out; have := HK3.out; have := HK4.out; omega⟩, by repeat (first | exact Drawn0.refl _ | apply Drawn0.step)⟩
                     ·rw [if_neg c29] at H
                      have c29n := c29
                      simp only [ByteArray.size_append, Int.natCast_add, show (⟨#[10]⟩ : ByteArray).size = 1 from rfl, show (⟨#[32, 61, 32]⟩ : ByteArray).size = 3 from rfl] at c29n
                      exact absurd H (by simp)
                    ·rw [if_neg c28] at H
                     have c28n := c28
                     simp only [ByteArray.size_append, Int.natCast_add, show (⟨#[32, 61, 32]⟩ : ByteArray).size = 3 from rfl] at c28n
                     exact absurd H (by simp)
                   ·rw [if_neg c27] at H
                    have c27n := c27
                    simp only [ByteArray.size_append, Int.natCast_add, show (⟨#[32, 61, 32]⟩ : ByteArray).size = 3 from rfl] at c27n
                    exact absurd H (by simp)
                  ·rw [if_neg c25] at H
                   exact absurd H (by simp)
                 ·rw [if_neg c24] at H
                  exact absurd H (by simp)
                ·rw [if_neg c23] at H
                 have c23b0 : decide (x6_4 < (((rd_T67 l0 x4_1).f2).length : Int)) = false := decide_eq_false c23
                 clear c23
                 have H' := Aside0.mk H
                 clear H
                 have p166 : 0 ≤ (x4_1 : Int) := odt
                 have q166 : x4_1 < (l0.length : Int) := odt
                 obtain ⟨ad166, A166_1, c166_1, A166_2, c166_2, e166, hx166_0, hx166_1, hx166_2, hl166_1, hi166_1, hl166_2, hi166_2⟩ := at_T67 HR0.out x4_1 p166 q166
                 obtain rfl : ad159 = ad166 := (by injection e166)
                 have HR166_1 := Aside0.mk hi166_1
                 have HC166_1 := Aside0.mk hl166_1
                 clear hi166_1 hl166_1
                 have HR166_2 := Aside0.mk hi166_2
                 have HC166_2 := Aside0.mk hl166_2
                 clear hi166_2 hl166_2
                 replace p166 := eq_true p166
                 replace q166 := eq_true q166
                 go_wp2
                 repeat (go_quiet (fail); try go_wp2)
                 go_roundg k4
                 case measure => have := HK1.out; have := HJ3.out; have := HK3.out; have := HK4.out; omega
                 case rel => exact ⟨(x3_4), (wrap64 (x4_1 + 1)), orf, orf, H', ⟨by have := HK1.out; have := HJ3.out; have := HK3.out; have := HK4.out; omega⟩, by repeat (first | exact Drawn0.refl _ | apply Drawn0.step)⟩
               ·rw [if_neg c22] at H
                exact absurd H (by simp)
              ·rw [if_neg c21] at H
               exact absurd H (by simp)
          ·rw [if_neg c10] at H
           exact absurd H (by simp)
         ·rw [if_neg c9] at H
          exact absurd H (by simp)
    ·rw [if_neg c3] at H
     exact absurd H (by simp)
   ·rw [if_neg c2] at H
    have c2b0 : decide (x4_1 < (l0.length : Int)) = false := decide_eq_false c2
    clear c2
    obtain rfl := Option.some.inj H
    go_wp2
    repeat (go_quiet (fail); try go_wp2)
    go_ret
    exact ⟨by first | rfl | (simp; done) | (simp [*]; done), by repeat (first | exact Drawn0.refl _ | apply Drawn0.step)⟩

end Go.Proofs.YtjglpjlbnmpdfaaGreatDoor.PFnModelDefs
