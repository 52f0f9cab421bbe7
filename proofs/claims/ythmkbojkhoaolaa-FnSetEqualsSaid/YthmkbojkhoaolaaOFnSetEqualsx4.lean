/- The machine side of laws.FnSetEquals: each function of this text answers what its Lean function answers (written for this claim by a program of this session over the kit's print; no condition beyond what each theorem says). -/
import Derived.Test.YthmkbojkhoaolaaOFnSetEqualsx0
namespace Go.Proofs.Ythmkbojkhoaolaa.PFnSetEquals
open Go.RowKit Go.Proofs.YthmkbojkhoaolaaW.PrintWords Go.Proofs.YthmkbojkhoaolaaW.PrintLast Go.Proofs.YthmkbojkhoaolaaW.PrintMore
attribute [local go_sem] max2_int min2_int max_two min_two max_three min_three max_four min_four   -- for this text's walks alone
set_option linter.unusedVariables false
set_option linter.unusedSimpArgs false

/-! ### spec_Often: function 32 -/
def spec_Often.l0 : Nat → List ByteArray → ByteArray → Int → Int → Option (Int)
  | 0, _, _, _, _ => none
  | k + 1, x0, x1, x5, x6 => if x6 < (x0.length : Int) then (if 0 ≤ x6 then (if (rdOf ByteArray.empty x0 x6).toList = x1.toList then (spec_Often.l0 k x0 x1 (wrap64 (x5 + 1)) (wrap64 (x6 + 1))) else (spec_Often.l0 k x0 x1 x5 (wrap64 (x6 + 1)))) else (none)) else (some x5)
def spec_Often.f (k : Nat) (l0 : List ByteArray) (a1 : ByteArray) : Option (Int) := spec_Often.l0 k l0 a1 0 0
theorem spec_Often.mono_l : ∀ k, (∀ y0 y1 y2 y3, LeO (spec_Often.l0 k y0 y1 y2 y3) (spec_Often.l0 (k + 1) y0 y1 y2 y3))
  | 0 => fun _ _ _ _ r h => by simp [spec_Often.l0] at h
  | k + 1 => by
    have ih0 := spec_Often.mono_l k
    · intro y0 y1 y2 y3
      unfold spec_Often.l0
      repeat' first
      | (with_reducible exact ih0 _ _ _ _)
      | (with_reducible exact LeO.refl _)
      | (with_reducible exact LeO.none _)
      | (with_reducible refine LeO.ite ?_ ?_)
      | (with_reducible refine LeO.bind ?_ (fun _ => ?_))
      | exact ih0 _ _ _ _
      | exact LeO.none _
      | refine LeO.ite ?_ ?_
      | refine LeO.bind ?_ (fun _ => ?_)
theorem spec_Often.mono : ∀ a0 a1 k, LeO (spec_Often.f k a0 a1) (spec_Often.f (k + 1) a0 a1) := by
  intro a0 a1 k
  have ih0 := spec_Often.mono_l k
  unfold spec_Often.f
  repeat' first
      | (with_reducible exact ih0 _ _ _ _)
      | (with_reducible exact LeO.refl _)
      | (with_reducible exact LeO.none _)
      | (with_reducible refine LeO.ite ?_ ?_)
      | (with_reducible refine LeO.bind ?_ (fun _ => ?_))
      | exact ih0 _ _ _ _
      | exact LeO.none _
      | refine LeO.ite ?_ ?_
      | refine LeO.bind ?_ (fun _ => ?_)
set_option maxHeartbeats 8000000 in
set_option maxRecDepth 100000 in
theorem spec_Often.calls (k : Nat) (A0 : Option Addr) (c0 : Nat) (l0 : List ByteArray) (a1 : ByteArray) (r : Int) (w : World) (hr0 : Kd.C Kd.string w A0 l0.length l0) (hc0 : l0.length ≤ c0) (h : spec_Often.f k l0 a1 = some r) :
    Calls Try.prog 32 #[.slice A0 l0.length c0, .string a1] w fun e w' => e = .returned (.int .i64 r) ∧ Drawn0 w w' := by
  have HR0 := Aside0.mk hr0
  have HC0 := Aside0.mk hc0
  clear hr0 hc0
  have H : (spec_Often.l0 k l0 a1 0 0) = some r := h
  clear h
  have H' := Aside0.mk H
  clear H
  go_enter Try.func32, Try.ntmps32
  go_wp2
  go_loopg [5, 6] k (fun kq v5 v6 w' => ∃ (x5_1 : Int) (x6_1 : Int), v5 = .int .i64 x5_1 ∧ v6 = .int .i64 x6_1 ∧ Aside0 (spec_Often.l0 kq l0 a1 x5_1 x6_1 = some r) ∧ Aside0 (kq ≤ k) ∧ Drawn0 w w')
  case atStart => exact ⟨(0), (0), (by first | rfl | (simp; done) | (simp [*]; done)), (by first | rfl | (simp; done) | (simp [*]; done)), H', ⟨Nat.le_refl _⟩, by repeat (first | exact Drawn0.refl _ | apply Drawn0.step)⟩
  case round =>
    clear H'
    try clear p2
    obtain ⟨x5_1, x6_1, rfl, rfl, HA, HK1, ⟨m1, rfl⟩⟩ := hrel
    cases gk with
    | zero => exact absurd HA.out (by simp [spec_Often.l0])
    | succ k1 =>
      have H := HA.out
      clear HA
      simp only [spec_Often.l0] at H
      by_cases c3 : x6_1 < (l0.length : Int)
      · rw [if_pos c3] at H
        have c3b0 : decide (x6_1 < (l0.length : Int)) = true := decide_eq_true c3
        clear c3
        by_cases c4 : 0 ≤ x6_1
        · rw [if_pos c4] at H
          have c4b0 : decide (0 ≤ x6_1) = true := decide_eq_true c4
          clear c4
          by_cases c5 : (rdOf ByteArray.empty l0 x6_1).toList = a1.toList
          · rw [if_pos c5] at H
            have c5b0 : ((rdOf ByteArray.empty l0 x6_1).toList == a1.toList) = true := beq_iff_eq.mpr c5
            have c5b1 : ((rdOf ByteArray.empty l0 x6_1).toList != a1.toList) = false := bne_eq_false_iff_eq.mpr c5
            clear c5
            have H' := Aside0.mk H
            clear H
            have p143 : 0 ≤ (x6_1 : Int) := of_decide_eq_true (by first | (with_reducible assumption) | assumption)
            have q143 : x6_1 < (l0.length : Int) := of_decide_eq_true (by first | (with_reducible assumption) | assumption)
            obtain ⟨ad143, e143, hx143_0⟩ := Kd.at_string HR0.out x6_1 p143 q143
            cases e143
            replace p143 := eq_true p143
            replace q143 := eq_true q143
            go_wp2
            go_roundg k1
            case measure => have := HK1.out; omega
            case rel => exact ⟨(wrap64 (x5_1 + 1)), (wrap64 (x6_1 + 1)), (by first | rfl | (simp; done) | (simp [*]; done)), (by first | rfl | (simp; done) | (simp [*]; done)), H', ⟨by have := HK1.out; omega⟩, by repeat (first | exact Drawn0.refl _ | apply Drawn0.step)⟩
          · rw [if_neg c5] at H
            have c5b0 : ((rdOf ByteArray.empty l0 x6_1).toList == a1.toList) = false := beq_eq_false_iff_ne.mpr c5
            have c5b1 : ((rdOf ByteArray.empty l0 x6_1).toList != a1.toList) = true := bne_iff_ne.mpr c5
            have H' := Aside0.mk H
            clear H
            have p143 : 0 ≤ (x6_1 : Int) := of_decide_eq_true (by first | (with_reducible assumption) | assumption)
            have q143 : x6_1 < (l0.length : Int) := of_decide_eq_true (by first | (with_reducible assumption) | assumption)
            obtain ⟨ad143, e143, hx143_0⟩ := Kd.at_string HR0.out x6_1 p143 q143
            cases e143
            replace p143 := eq_true p143
            replace q143 := eq_true q143
            go_wp2
            go_roundg k1
            case measure => have := HK1.out; omega
            case rel => exact ⟨(x5_1), (wrap64 (x6_1 + 1)), (by first | rfl | (simp; done) | (simp [*]; done)), (by first | rfl | (simp; done) | (simp [*]; done)), H', ⟨by have := HK1.out; omega⟩, by repeat (first | exact Drawn0.refl _ | apply Drawn0.step)⟩
        · rw [if_neg c4] at H
          exact absurd H (by simp)
      · rw [if_neg c3] at H
        have c3b0 : decide (x6_1 < (l0.length : Int)) = false := decide_eq_false c3
        clear c3
        obtain rfl := Option.some.inj H
        go_wp2
        go_ret
        exact ⟨by first | rfl | (simp; done) | (simp [*]; done), by repeat (first | exact Drawn0.refl _ | apply Drawn0.step)⟩

/-! ### spec_SameBag: function 12 -/
def spec_SameBag.l0 : Nat → List ByteArray → List ByteArray → Int → Option (Bool)
  | 0, _, _, _ => none
  | k + 1, x0, x1, x5 => if x5 < (x0.length : Int) then (if 0 ≤ x5 then ((spec_Often.f k x0 (rdOf ByteArray.empty x0 x5)).bind fun t145 => ((spec_Often.f k x1 (rdOf ByteArray.empty x0 x5)).bind fun t147 => (if t145 = t147 then (spec_SameBag.l0 k x0 x1 (wrap64 (x5 + 1))) else (some false)))) else (none)) else (some true)
def spec_SameBag.f (k : Nat) (l0 : List ByteArray) (l1 : List ByteArray) : Option (Bool) := if (l0.length : Int) = (l1.length : Int) then (spec_SameBag.l0 k l0 l1 0) else (some false)
theorem spec_SameBag.mono_l : ∀ k, (∀ y0 y1 y2, LeO (spec_SameBag.l0 k y0 y1 y2) (spec_SameBag.l0 (k + 1) y0 y1 y2))
  | 0 => fun _ _ _ r h => by simp [spec_SameBag.l0] at h
  | k + 1 => by
    have ih0 := spec_SameBag.mono_l k
    · intro y0 y1 y2
      unfold spec_SameBag.l0
      repeat' first
      | (with_reducible exact ih0 _ _ _)
      | (with_reducible exact spec_Often.mono _ _ _)
      | (with_reducible exact LeO.refl _)
      | (with_reducible exact LeO.none _)
      | (with_reducible refine LeO.ite ?_ ?_)
      | (with_reducible refine LeO.bind ?_ (fun _ => ?_))
      | exact ih0 _ _ _
      | exact spec_Often.mono _ _ _
      | exact LeO.none _
      | refine LeO.ite ?_ ?_
      | refine LeO.bind ?_ (fun _ => ?_)
theorem spec_SameBag.mono : ∀ a0 a1 k, LeO (spec_SameBag.f k a0 a1) (spec_SameBag.f (k + 1) a0 a1) := by
  intro a0 a1 k
  have ih0 := spec_SameBag.mono_l k
  unfold spec_SameBag.f
  repeat' first
      | (with_reducible exact ih0 _ _ _)
      | (with_reducible exact spec_Often.mono _ _ _)
      | (with_reducible exact LeO.refl _)
      | (with_reducible exact LeO.none _)
      | (with_reducible refine LeO.ite ?_ ?_)
      | (with_reducible refine LeO.bind ?_ (fun _ => ?_))
      | exact ih0 _ _ _
      | exact spec_Often.mono _ _ _
      | exact LeO.none _
      | refine LeO.ite ?_ ?_
      | refine LeO.bind ?_ (fun _ => ?_)
set_option maxHeartbeats 8000000 in
set_option maxRecDepth 100000 in
theorem spec_SameBag.calls (k : Nat) (A0 : Option Addr) (c0 : Nat) (l0 : List ByteArray) (A1 : Option Addr) (c1 : Nat) (l1 : List ByteArray) (r : Bool) (w : World) (hr0 : Kd.C Kd.string w A0 l0.length l0) (hc0 : l0.length ≤ c0) (hr1 : Kd.C Kd.string w A1 l1.length l1) (hc1 : l1.length ≤ c1) (h : spec_SameBag.f k l0 l1 = some r) :
    Calls Try.prog 12 #[.slice A0 l0.length c0, .slice A1 l1.length c1] w fun e w' => e = .returned (.bool r) ∧ Drawn0 w w' := by
  have HR0 := Aside0.mk hr0
  have HC0 := Aside0.mk hc0
  clear hr0 hc0
  have HR1 := Aside0.mk hr1
  have HC1 := Aside0.mk hc1
  clear hr1 hc1
  have H : (if (l0.length : Int) = (l1.length : Int) then (spec_SameBag.l0 k l0 l1 0) else (some false)) = some r := h
  clear h
  by_cases c3 : (l0.length : Int) = (l1.length : Int)
  · rw [if_pos c3] at H
    have c3b0 : ((l0.length : Int) == (l1.length : Int)) = true := beq_iff_eq.mpr c3
    have c3b1 : ((l0.length : Int) != (l1.length : Int)) = false := bne_eq_false_iff_eq.mpr c3
    have c3b2 : (l0.length == l1.length) = true := by first | simpa using c3 | (simp at c3 ⊢; omega)
    clear c3
    have H' := Aside0.mk H
    clear H
    go_enter Try.func12, Try.ntmps12
    go_wp2
    repeat (go_quiet (fail); try go_wp2)
    go_loopg [5] k (fun kq v5 w' => ∃ (x5_1 : Int), v5 = .int .i64 x5_1 ∧ Aside0 (spec_SameBag.l0 kq l0 l1 x5_1 = some r) ∧ Aside0 (kq ≤ k) ∧ Drawn0 w w')
    case atStart => exact ⟨(0), (by first | rfl | (simp; done) | (simp [*]; done)), H', ⟨Nat.le_refl _⟩, by repeat (first | exact Drawn0.refl _ | apply Drawn0.step)⟩
    case round =>
      clear H'
      try clear c1
      try clear p2
      try clear c3
      try clear c3b0
      try clear c3b1
      try clear c3b2
      obtain ⟨x5_1, rfl, HA, HK1, ⟨m1, rfl⟩⟩ := hrel
      cases gk with
      | zero => exact absurd HA.out (by simp [spec_SameBag.l0])
      | succ k1 =>
        have H := HA.out
        clear HA
        simp only [spec_SameBag.l0] at H
        by_cases c4 : x5_1 < (l0.length : Int)
        · rw [if_pos c4] at H
          have c4b0 : decide (x5_1 < (l0.length : Int)) = true := decide_eq_true c4
          clear c4
          by_cases c5 : 0 ≤ x5_1
          · rw [if_pos c5] at H
            have c5b0 : decide (0 ≤ x5_1) = true := decide_eq_true c5
            clear c5
            replace H := Option.bind_eq_some_iff.mp H
            obtain ⟨t145, A60, H⟩ := H
            replace H : ((spec_Often.f k1 l1 (rdOf ByteArray.empty l0 x5_1)).bind fun t147 => (if t145 = t147 then (spec_SameBag.l0 k1 l0 l1 (wrap64 (x5_1 + 1))) else (some false))) = some r := H
            have A6 := Aside0.mk A60
            clear A60
            replace H := Option.bind_eq_some_iff.mp H
            obtain ⟨t147, A70, H⟩ := H
            replace H : (if t145 = t147 then (spec_SameBag.l0 k1 l0 l1 (wrap64 (x5_1 + 1))) else (some false)) = some r := H
            have A7 := Aside0.mk A70
            clear A70
            by_cases c8 : t145 = t147
            · rw [if_pos c8] at H
              have c8b0 : (t145 == t147) = true := beq_iff_eq.mpr c8
              have c8b1 : (t145 != t147) = false := bne_eq_false_iff_eq.mpr c8
              clear c8
              have H' := Aside0.mk H
              clear H
              have p144 : 0 ≤ (x5_1 : Int) := of_decide_eq_true (by first | (with_reducible assumption) | assumption)
              have q144 : x5_1 < (l0.length : Int) := of_decide_eq_true (by first | (with_reducible assumption) | assumption)
              obtain ⟨ad144, e144, hx144_0⟩ := Kd.at_string HR0.out x5_1 p144 q144
              cases e144
              replace p144 := eq_true p144
              replace q144 := eq_true q144
              go_wp2_with (first | (go_at_call 32; (with_reducible refine (spec_Often.calls k1 _ _ l0 (rdOf ByteArray.empty l0 x5_1) t145 _ ?side1 ?side2 A6.out).mono ?_); (case side1 => repeat (first | exact HR0.out | (with_reducible refine Kd.C_alloc ?_ _) | (with_reducible refine Kd.C_drewN ?_ _) | (with_reducible refine Kd.C_drew ?_))); (case side2 => exact HC0.out); rintro e w' ⟨rfl, ⟨nd, rfl⟩⟩; (try first | exact ⟨rfl, _, World.drewN_drewN _ _ _⟩ | exact ⟨rfl, _, Eq.trans (World.drewN_drewN _ _ _) (congrArg (World.drewN _) (Nat.add_assoc _ _ _))⟩); have p146 : 0 ≤ (x5_1 : Int) := of_decide_eq_true (by first | (with_reducible assumption) | assumption); have q146 : x5_1 < (l0.length : Int) := of_decide_eq_true (by first | (with_reducible assumption) | assumption); obtain ⟨ad146, e146, hx146_0⟩ := Kd.at_string HR0.out x5_1 p146 q146; obtain rfl : ad144 = ad146 := (by injection e146); replace p146 := eq_true p146; replace q146 := eq_true q146) | (go_at_call 32; (with_reducible refine (spec_Often.calls k1 _ _ l1 (rdOf ByteArray.empty l0 x5_1) t147 _ ?side1 ?side2 A7.out).mono ?_); (case side1 => repeat (first | exact HR1.out | (with_reducible refine Kd.C_alloc ?_ _) | (with_reducible refine Kd.C_drewN ?_ _) | (with_reducible refine Kd.C_drew ?_))); (case side2 => exact HC1.out); rintro e w' ⟨rfl, ⟨nd, rfl⟩⟩; (try first | exact ⟨rfl, _, World.drewN_drewN _ _ _⟩ | exact ⟨rfl, _, Eq.trans (World.drewN_drewN _ _ _) (congrArg (World.drewN _) (Nat.add_assoc _ _ _))⟩)))
              repeat (go_quiet (first | (go_at_call 32; (with_reducible refine (spec_Often.calls k1 _ _ l0 (rdOf ByteArray.empty l0 x5_1) t145 _ ?side1 ?side2 A6.out).mono ?_); (case side1 => repeat (first | exact HR0.out | (with_reducible refine Kd.C_alloc ?_ _) | (with_reducible refine Kd.C_drewN ?_ _) | (with_reducible refine Kd.C_drew ?_))); (case side2 => exact HC0.out); rintro e w' ⟨rfl, ⟨nd, rfl⟩⟩; (try first | exact ⟨rfl, _, World.drewN_drewN _ _ _⟩ | exact ⟨rfl, _, Eq.trans (World.drewN_drewN _ _ _) (congrArg (World.drewN _) (Nat.add_assoc _ _ _))⟩); have p146 : 0 ≤ (x5_1 : Int) := of_decide_eq_true (by first | (with_reducible assumption) | assumption); have q146 : x5_1 < (l0.length : Int) := of_decide_eq_true (by first | (with_reducible assumption) | assumption); obtain ⟨ad146, e146, hx146_0⟩ := Kd.at_string HR0.out x5_1 p146 q146; obtain rfl : ad144 = ad146 := (by injection e146); replace p146 := eq_true p146; replace q146 := eq_true q146) | (go_at_call 32; (with_reducible refine (spec_Often.calls k1 _ _ l1 (rdOf ByteArray.empty l0 x5_1) t147 _ ?side1 ?side2 A7.out).mono ?_); (case side1 => repeat (first | exact HR1.out | (with_reducible refine Kd.C_alloc ?_ _) | (with_reducible refine Kd.C_drewN ?_ _) | (with_reducible refine Kd.C_drew ?_))); (case side2 => exact HC1.out); rintro e w' ⟨rfl, ⟨nd, rfl⟩⟩; (try first | exact ⟨rfl, _, World.drewN_drewN _ _ _⟩ | exact ⟨rfl, _, Eq.trans (World.drewN_drewN _ _ _) (congrArg (World.drewN _) (Nat.add_assoc _ _ _))⟩))); try go_wp2_with (first | (go_at_call 32; (with_reducible refine (spec_Often.calls k1 _ _ l0 (rdOf ByteArray.empty l0 x5_1) t145 _ ?side1 ?side2 A6.out).mono ?_); (case side1 => repeat (first | exact HR0.out | (with_reducible refine Kd.C_alloc ?_ _) | (with_reducible refine Kd.C_drewN ?_ _) | (with_reducible refine Kd.C_drew ?_))); (case side2 => exact HC0.out); rintro e w' ⟨rfl, ⟨nd, rfl⟩⟩; (try first | exact ⟨rfl, _, World.drewN_drewN _ _ _⟩ | exact ⟨rfl, _, Eq.trans (World.drewN_drewN _ _ _) (congrArg (World.drewN _) (Nat.add_assoc _ _ _))⟩); have p146 : 0 ≤ (x5_1 : Int) := of_decide_eq_true (by first | (with_reducible assumption) | assumption); have q146 : x5_1 < (l0.length : Int) := of_decide_eq_true (by first | (with_reducible assumption) | assumption); obtain ⟨ad146, e146, hx146_0⟩ := Kd.at_string HR0.out x5_1 p146 q146; obtain rfl : ad144 = ad146 := (by injection e146); replace p146 := eq_true p146; replace q146 := eq_true q146) | (go_at_call 32; (with_reducible refine (spec_Often.calls k1 _ _ l1 (rdOf ByteArray.empty l0 x5_1) t147 _ ?side1 ?side2 A7.out).mono ?_); (case side1 => repeat (first | exact HR1.out | (with_reducible refine Kd.C_alloc ?_ _) | (with_reducible refine Kd.C_drewN ?_ _) | (with_reducible refine Kd.C_drew ?_))); (case side2 => exact HC1.out); rintro e w' ⟨rfl, ⟨nd, rfl⟩⟩; (try first | exact ⟨rfl, _, World.drewN_drewN _ _ _⟩ | exact ⟨rfl, _, Eq.trans (World.drewN_drewN _ _ _) (congrArg (World.drewN _) (Nat.add_assoc _ _ _))⟩))))
              go_roundg k1
              case measure => have := HK1.out; omega
              case rel => exact ⟨(wrap64 (x5_1 + 1)), (by first | rfl | (simp; done) | (simp [*]; done)), H', ⟨by have := HK1.out; omega⟩, by repeat (first | exact Drawn0.refl _ | apply Drawn0.step)⟩
            · rw [if_neg c8] at H
              have c8b0 : (t145 == t147) = false := beq_eq_false_iff_ne.mpr c8
              have c8b1 : (t145 != t147) = true := bne_iff_ne.mpr c8
              obtain rfl := Option.some.inj H
              have p144 : 0 ≤ (x5_1 : Int) := of_decide_eq_true (by first | (with_reducible assumption) | assumption)
              have q144 : x5_1 < (l0.length : Int) := of_decide_eq_true (by first | (with_reducible assumption) | assumption)
              obtain ⟨ad144, e144, hx144_0⟩ := Kd.at_string HR0.out x5_1 p144 q144
              cases e144
              replace p144 := eq_true p144
              replace q144 := eq_true q144
              go_wp2_with (first | (go_at_call 32; (with_reducible refine (spec_Often.calls k1 _ _ l0 (rdOf ByteArray.empty l0 x5_1) t145 _ ?side1 ?side2 A6.out).mono ?_); (case side1 => repeat (first | exact HR0.out | (with_reducible refine Kd.C_alloc ?_ _) | (with_reducible refine Kd.C_drewN ?_ _) | (with_reducible refine Kd.C_drew ?_))); (case side2 => exact HC0.out); rintro e w' ⟨rfl, ⟨nd, rfl⟩⟩; (try first | exact ⟨rfl, _, World.drewN_drewN _ _ _⟩ | exact ⟨rfl, _, Eq.trans (World.drewN_drewN _ _ _) (congrArg (World.drewN _) (Nat.add_assoc _ _ _))⟩); have p146 : 0 ≤ (x5_1 : Int) := of_decide_eq_true (by first | (with_reducible assumption) | assumption); have q146 : x5_1 < (l0.length : Int) := of_decide_eq_true (by first | (with_reducible assumption) | assumption); obtain ⟨ad146, e146, hx146_0⟩ := Kd.at_string HR0.out x5_1 p146 q146; obtain rfl : ad144 = ad146 := (by injection e146); replace p146 := eq_true p146; replace q146 := eq_true q146) | (go_at_call 32; (with_reducible refine (spec_Often.calls k1 _ _ l1 (rdOf ByteArray.empty l0 x5_1) t147 _ ?side1 ?side2 A7.out).mono ?_); (case side1 => repeat (first | exact HR1.out | (with_reducible refine Kd.C_alloc ?_ _) | (with_reducible refine Kd.C_drewN ?_ _) | (with_reducible refine Kd.C_drew ?_))); (case side2 => exact HC1.out); rintro e w' ⟨rfl, ⟨nd, rfl⟩⟩; (try first | exact ⟨rfl, _, World.drewN_drewN _ _ _⟩ | exact ⟨rfl, _, Eq.trans (World.drewN_drewN _ _ _) (congrArg (World.drewN _) (Nat.add_assoc _ _ _))⟩)))
              repeat (go_quiet (first | (go_at_call 32; (with_reducible refine (spec_Often.calls k1 _ _ l0 (rdOf ByteArray.empty l0 x5_1) t145 _ ?side1 ?side2 A6.out).mono ?_); (case side1 => repeat (first | exact HR0.out | (with_reducible refine Kd.C_alloc ?_ _) | (with_reducible refine Kd.C_drewN ?_ _) | (with_reducible refine Kd.C_drew ?_))); (case side2 => exact HC0.out); rintro e w' ⟨rfl, ⟨nd, rfl⟩⟩; (try first | exact ⟨rfl, _, World.drewN_drewN _ _ _⟩ | exact ⟨rfl, _, Eq.trans (World.drewN_drewN _ _ _) (congrArg (World.drewN _) (Nat.add_assoc _ _ _))⟩); have p146 : 0 ≤ (x5_1 : Int) := of_decide_eq_true (by first | (with_reducible assumption) | assumption); have q146 : x5_1 < (l0.length : Int) := of_decide_eq_true (by first | (with_reducible assumption) | assumption); obtain ⟨ad146, e146, hx146_0⟩ := Kd.at_string HR0.out x5_1 p146 q146; obtain rfl : ad144 = ad146 := (by injection e146); replace p146 := eq_true p146; replace q146 := eq_true q146) | (go_at_call 32; (with_reducible refine (spec_Often.calls k1 _ _ l1 (rdOf ByteArray.empty l0 x5_1) t147 _ ?side1 ?side2 A7.out).mono ?_); (case side1 => repeat (first | exact HR1.out | (with_reducible refine Kd.C_alloc ?_ _) | (with_reducible refine Kd.C_drewN ?_ _) | (with_reducible refine Kd.C_drew ?_))); (case side2 => exact HC1.out); rintro e w' ⟨rfl, ⟨nd, rfl⟩⟩; (try first | exact ⟨rfl, _, World.drewN_drewN _ _ _⟩ | exact ⟨rfl, _, Eq.trans (World.drewN_drewN _ _ _) (congrArg (World.drewN _) (Nat.add_assoc _ _ _))⟩))); try go_wp2_with (first | (go_at_call 32; (with_reducible refine (spec_Often.calls k1 _ _ l0 (rdOf ByteArray.empty l0 x5_1) t145 _ ?side1 ?side2 A6.out).mono ?_); (case side1 => repeat (first | exact HR0.out | (with_reducible refine Kd.C_alloc ?_ _) | (with_reducible refine Kd.C_drewN ?_ _) | (with_reducible refine Kd.C_drew ?_))); (case side2 => exact HC0.out); rintro e w' ⟨rfl, ⟨nd, rfl⟩⟩; (try first | exact ⟨rfl, _, World.drewN_drewN _ _ _⟩ | exact ⟨rfl, _, Eq.trans (World.drewN_drewN _ _ _) (congrArg (World.drewN _) (Nat.add_assoc _ _ _))⟩); have p146 : 0 ≤ (x5_1 : Int) := of_decide_eq_true (by first | (with_reducible assumption) | assumption); have q146 : x5_1 < (l0.length : Int) := of_decide_eq_true (by first | (with_reducible assumption) | assumption); obtain ⟨ad146, e146, hx146_0⟩ := Kd.at_string HR0.out x5_1 p146 q146; obtain rfl : ad144 = ad146 := (by injection e146); replace p146 := eq_true p146; replace q146 := eq_true q146) | (go_at_call 32; (with_reducible refine (spec_Often.calls k1 _ _ l1 (rdOf ByteArray.empty l0 x5_1) t147 _ ?side1 ?side2 A7.out).mono ?_); (case side1 => repeat (first | exact HR1.out | (with_reducible refine Kd.C_alloc ?_ _) | (with_reducible refine Kd.C_drewN ?_ _) | (with_reducible refine Kd.C_drew ?_))); (case side2 => exact HC1.out); rintro e w' ⟨rfl, ⟨nd, rfl⟩⟩; (try first | exact ⟨rfl, _, World.drewN_drewN _ _ _⟩ | exact ⟨rfl, _, Eq.trans (World.drewN_drewN _ _ _) (congrArg (World.drewN _) (Nat.add_assoc _ _ _))⟩))))
              go_ret
              exact ⟨by first | rfl | (simp; done) | (simp [*]; done), by repeat (first | exact Drawn0.refl _ | apply Drawn0.step)⟩
          · rw [if_neg c5] at H
            exact absurd H (by simp)
        · rw [if_neg c4] at H
          have c4b0 : decide (x5_1 < (l0.length : Int)) = false := decide_eq_false c4
          clear c4
          obtain rfl := Option.some.inj H
          go_wp2
          repeat (go_quiet (fail); try go_wp2)
          go_ret
          exact ⟨by first | rfl | (simp; done) | (simp [*]; done), by repeat (first | exact Drawn0.refl _ | apply Drawn0.step)⟩
  · rw [if_neg c3] at H
    have c3b0 : ((l0.length : Int) == (l1.length : Int)) = false := beq_eq_false_iff_ne.mpr c3
    have c3b1 : ((l0.length : Int) != (l1.length : Int)) = true := bne_iff_ne.mpr c3
    have c3b2 : (l0.length == l1.length) = false := by first | simpa using c3 | (simp at c3 ⊢; omega)
    obtain rfl := Option.some.inj H
    go_enter Try.func12, Try.ntmps12
    go_wp2
    repeat (go_quiet (fail); try go_wp2)
    go_ret
    exact ⟨by first | rfl | (simp; done) | (simp [*]; done), by repeat (first | exact Drawn0.refl _ | apply Drawn0.step)⟩

/-! ### util_SetEqualsInt: function 33 -/
/-- the numbers, sorted -/
def sortI (l : List Int) : List Int := l.mergeSort fun x y => decide (x ≤ y)
theorem sortI_length (l : List Int) : (sortI l).length = l.length := by simp [sortI]
theorem sort_RI {w : World} {base : Nat} {ok : Nat → Prop} {v : Value} {l : List Int} (HO : Kd.R (Kd.int .i64) 3 w base ok v l) (hl : l.length < 4611686018427387904) :
    Calls Try.prog 45 #[v] w fun e w' => e = .returned (.tuple #[]) ∧ Kd.R (Kd.int .i64) 3 w' base ok v (sortI l) ∧ w.grownBy w' v.ownBlock := by
  have ho := Kd.own_of_R HO
  rcases ho.2 with ⟨rfl, hn⟩ | ⟨g, cap, cur, rfl, hbase, hb, h1, h2, h3, h4⟩
  · have hl0 : l = [] := by
      have := ho.1
      rw [hn] at this
      rw [encs_length] at this
      exact List.eq_nil_of_length_eq_zero (by omega)
    subst hl0
    refine (Try.sort_Ints_none none 0 w).mono ?_
    rintro e w' ⟨rfl, rfl⟩
    have es : sortI [] = [] := by simp [sortI]
    rw [es]
    exact ⟨rfl, HO, World.grownBy.refl _ _⟩
  · rw [Nat.mul_one] at h4
    have hc := Try.sort_Ints g 0 cap l w (holds_of_blockI hb h4) (Array.getElem?_eq_some_iff.1 hb).1 hl
    refine hc.mono ?_
    rintro e w' ⟨rfl, n, os, rfl⟩
    refine ⟨rfl, Kd.R_of_own ?_ HO.1, grownBy_sortedI _⟩
    rw [sortI_length]
    exact ownsRow_sortedI (n := n) (os := os) (base := base) (ss := l) (ts := l.mergeSort fun x y => decide (x ≤ y)) (by simp) hbase hb h1 h2 h3
theorem R_otherI {w w1 : World} {base : Nat} {e : Nat} {ok : Nat → Prop} {v : Value} {l : List Int} {row : Option Nat} (HO : Kd.R (Kd.int .i64) e w base ok v l) (hg : w.grownBy w1 row) (hd : ∀ k, v.ownBlock = some k → some k ≠ row) : Kd.R (Kd.int .i64) e w1 base ok v l := by
  have ho := Kd.own_of_R HO
  exact Kd.R_of_own (own_move ho fun k hk => hg.block k (ho.lt k hk).2 (hd k hk)) HO.1
def util_SetEqualsInt.l0 : Nat → List Int → List Int → Int → Int → Option (Bool)
  | 0, _, _, _, _ => none
  | k + 1, x1, x16, x17, x18 => if x18 < x17 then (if 0 ≤ x18 then (if x18 < (x16.length : Int) then (if x18 < (x1.length : Int) then (if (rd x16 x18) = (rd x1 x18) then (util_SetEqualsInt.l0 k x1 x16 x17 (wrap64 (x18 + 1))) else (some false)) else (none)) else (none)) else (none)) else (some true)
theorem util_SetEqualsInt.mono_l : ∀ k, (∀ y0 y1 y2 y3, LeO (util_SetEqualsInt.l0 k y0 y1 y2 y3) (util_SetEqualsInt.l0 (k + 1) y0 y1 y2 y3))
  | 0 => fun _ _ _ _ r h => by simp [util_SetEqualsInt.l0] at h
  | k + 1 => by
    have ih0 := util_SetEqualsInt.mono_l k
    · intro y0 y1 y2 y3
      unfold util_SetEqualsInt.l0
      repeat' first
      | (with_reducible exact ih0 _ _ _ _)
      | (with_reducible exact LeO.refl _)
      | (with_reducible exact LeO.none _)
      | (with_reducible refine LeO.ite ?_ ?_)
      | (with_reducible refine LeO.bind ?_ (fun _ => ?_))
      | exact ih0 _ _ _ _
      | exact LeO.none _
      | refine LeO.ite ?_ ?_
      | refine LeO.bind ?_ (fun _ => ?_)
/-- both lists sorted, then number by number -/
def util_SetEqualsInt.f (k : Nat) (l0 : List Int) (l1 : List Int) : Option (Bool) := if l0.length < 4611686018427387904 ∧ l1.length < 4611686018427387904 then (if (l0.length : Int) = (l1.length : Int) then util_SetEqualsInt.l0 k (sortI l1) (sortI l0) (l0.length : Int) 0 else some false) else none
theorem util_SetEqualsInt.mono : ∀ a0 a1 k, LeO (util_SetEqualsInt.f k a0 a1) (util_SetEqualsInt.f (k + 1) a0 a1) := by
  intro a0 a1 k
  unfold util_SetEqualsInt.f
  exact LeO.ite (LeO.ite (util_SetEqualsInt.mono_l k _ _ _ _) (LeO.refl _)) (LeO.refl _)
set_option maxHeartbeats 8000000 in
set_option maxRecDepth 100000 in
theorem util_SetEqualsInt.own (k : Nat) (v0 v1 : Value) (l0 l1 : List Int) (r : Bool) (w0 w : World) (ok0 ok1 : Nat → Prop) (ho0 : Kd.R (Kd.int .i64) 3 w w0.heap.size ok0 v0 l0) (ho1 : Kd.R (Kd.int .i64) 3 w w0.heap.size ok1 v1 l1) (hd : ∀ k, v1.ownBlock = some k → some k ≠ v0.ownBlock) (hb0 : Below w0.heap.size w0 w) (h : util_SetEqualsInt.f k l0 l1 = some r) :
    Calls Try.prog 33 #[v0, v1] w fun e w' => e = .returned (.bool r) ∧ Below w0.heap.size w0 w' := by
  have HO0 := Aside0.mk ho0
  have HO1 := Aside0.mk ho1
  have HD := Aside0.mk hd
  have HB := Aside0.mk hb0
  obtain ⟨A0, c0, rfl⟩ := Kd.R_slice ho0
  obtain ⟨A1, c1, rfl⟩ := Kd.R_slice ho1
  clear ho0 ho1 hd hb0
  unfold util_SetEqualsInt.f at h
  have hg : l0.length < 4611686018427387904 ∧ l1.length < 4611686018427387904 := by
    by_cases hg : l0.length < 4611686018427387904 ∧ l1.length < 4611686018427387904
    · exact hg
    · rw [if_neg hg] at h; cases h
  rw [if_pos hg] at h
  have HG := Aside0.mk hg
  clear hg
  by_cases c3 : (l0.length : Int) = (l1.length : Int)
  · rw [if_pos c3] at h
    have c3b0 : ((l0.length : Int) == (l1.length : Int)) = true := beq_iff_eq.mpr c3
    have c3b1 : ((l0.length : Int) != (l1.length : Int)) = false := bne_eq_false_iff_eq.mpr c3
    have c3b2 : (l0.length == l1.length) = true := by first | simpa using c3 | (simp at c3 ⊢; omega)
    clear c3
    have H' := Aside0.mk h
    clear h
    go_enter Try.func33, Try.ntmps33
    go_wp2_with (first
      | ((with_reducible refine gate_callee (f := 45) rfl ?_); refine goesL_ (some 13) rfl rfl Try.func45 (by kernel_rfl) rfl #[.slice A0 l0.length c0] rfl (by (try simp only [List.map_toArray, List.map_cons, List.map_nil]); first | done | rfl | (simp only [List.length_drop, List.length_take]; rfl)) ?_; (with_reducible refine (sort_RI HO0.out HG.out.1).mono ?_); rintro e w1 ⟨rfl, ho, hg⟩; refine ⟨_, rfl, ?_⟩; have n0_ := Aside0.mk ho; have n1_ := Aside0.mk (R_otherI HO1.out hg HD.out); have n2_ := Aside0.mk (HB.out.grown hg (below_size HB.out) (own_base (Kd.own_of_R HO0.out))); clear HO0 HO1 HB; have HO0 := n0_; have HO1 := n1_; have HB := n2_; clear n0_ n1_ n2_ ho hg)
      | ((with_reducible refine gate_callee (f := 45) rfl ?_); refine goesL_ (some 15) rfl rfl Try.func45 (by kernel_rfl) rfl #[.slice A1 l1.length c1] rfl (by (try simp only [List.map_toArray, List.map_cons, List.map_nil]); first | done | rfl | (simp only [List.length_drop, List.length_take]; rfl)) ?_; (with_reducible refine (sort_RI HO1.out HG.out.2).mono ?_); rintro e w2 ⟨rfl, ho, hg⟩; refine ⟨_, rfl, ?_⟩; have n0_ := Aside0.mk ho; have n1_ := Aside0.mk (R_otherI HO0.out hg (fun k hk hk2 => HD.out k hk2.symm hk.symm)); have n2_ := Aside0.mk (HB.out.grown hg (below_size HB.out) (own_base (Kd.own_of_R HO1.out))); clear HO0 HO1 HB; have HO1 := n0_; have HO0 := n1_; have HB := n2_; clear n0_ n1_ n2_ ho hg))
    have HR0 := Aside0.mk (show Kd.C (Kd.int .i64) w2 A0 l0.length (sortI l0) from by have q := (Kd.R_reads' HO0.out).2.2; rw [sortI_length] at q; exact q)
    have HR1 := Aside0.mk (show Kd.C (Kd.int .i64) w2 A1 l1.length (sortI l1) from by have q := (Kd.R_reads' HO1.out).2.2; rw [sortI_length] at q; exact q)
    go_loopg [18] k (fun kq v18 w' => ∃ (x18_1 : Int), v18 = .int .i64 x18_1 ∧ Aside0 (util_SetEqualsInt.l0 kq (sortI l1) (sortI l0) (l0.length : Int) x18_1 = some r) ∧ Aside0 (kq ≤ k) ∧ Drawn0 w2 w')
    case atStart => exact ⟨(0), (by first | rfl | (simp; done) | (simp [*]; done)), H', ⟨Nat.le_refl _⟩, by repeat (first | exact Drawn0.refl _ | apply Drawn0.step)⟩
    case round =>
      clear H'
      try clear c1
      try clear p2
      try clear c3
      try clear c3b0
      try clear c3b1
      try clear c3b2
      obtain ⟨x18_1, rfl, HA, HK1, ⟨m1, rfl⟩⟩ := hrel
      cases gk with
      | zero => exact absurd HA.out (by simp [util_SetEqualsInt.l0])
      | succ k1 =>
        have H := HA.out
        clear HA
        simp only [util_SetEqualsInt.l0, sortI_length] at H
        by_cases c4 : x18_1 < (l0.length : Int)
        · rw [if_pos c4] at H
          have c4b0 : decide (x18_1 < (l0.length : Int)) = true := decide_eq_true c4
          clear c4
          by_cases c5 : 0 ≤ x18_1
          · rw [if_pos c5] at H
            have c5b0 : decide (0 ≤ x18_1) = true := decide_eq_true c5
            clear c5
            by_cases c6 : x18_1 < (l0.length : Int)
            · rw [if_pos c6] at H
              have c6b0 : decide (x18_1 < (l0.length : Int)) = true := decide_eq_true c6
              clear c6
              by_cases c7 : x18_1 < (l1.length : Int)
              · rw [if_pos c7] at H
                have c7b0 : decide (x18_1 < (l1.length : Int)) = true := decide_eq_true c7
                clear c7
                by_cases c8 : (rd (sortI l0) x18_1) = (rd (sortI l1) x18_1)
                · rw [if_pos c8] at H
                  have c8b0 : ((rd (sortI l0) x18_1) == (rd (sortI l1) x18_1)) = true := beq_iff_eq.mpr c8
                  have c8b1 : ((rd (sortI l0) x18_1) != (rd (sortI l1) x18_1)) = false := bne_eq_false_iff_eq.mpr c8
                  clear c8
                  have H' := Aside0.mk H
                  clear H
                  have p148 : 0 ≤ (x18_1 : Int) := of_decide_eq_true (by first | (with_reducible assumption) | assumption)
                  have q148 : x18_1 < (l0.length : Int) := of_decide_eq_true (by first | (with_reducible assumption) | assumption)
                  obtain ⟨ad148, e148, hx148_0⟩ := Kd.at_int HR0.out x18_1 p148 q148
                  cases e148
                  replace p148 := eq_true p148
                  replace q148 := eq_true q148
                  have p149 : 0 ≤ (x18_1 : Int) := of_decide_eq_true (by first | (with_reducible assumption) | assumption)
                  have q149 : x18_1 < (l1.length : Int) := of_decide_eq_true (by first | (with_reducible assumption) | assumption)
                  obtain ⟨ad149, e149, hx149_0⟩ := Kd.at_int HR1.out x18_1 p149 q149
                  cases e149
                  replace p149 := eq_true p149
                  replace q149 := eq_true q149
                  go_wp2
                  go_roundg k1
                  case measure => have := HK1.out; omega
                  case rel => exact ⟨(wrap64 (x18_1 + 1)), (by first | rfl | (simp; done) | (simp [*]; done)), H', ⟨by have := HK1.out; omega⟩, by repeat (first | exact Drawn0.refl _ | apply Drawn0.step)⟩
                · rw [if_neg c8] at H
                  have c8b0 : ((rd (sortI l0) x18_1) == (rd (sortI l1) x18_1)) = false := beq_eq_false_iff_ne.mpr c8
                  have c8b1 : ((rd (sortI l0) x18_1) != (rd (sortI l1) x18_1)) = true := bne_iff_ne.mpr c8
                  obtain rfl := Option.some.inj H
                  have p148 : 0 ≤ (x18_1 : Int) := of_decide_eq_true (by first | (with_reducible assumption) | assumption)
                  have q148 : x18_1 < (l0.length : Int) := of_decide_eq_true (by first | (with_reducible assumption) | assumption)
                  obtain ⟨ad148, e148, hx148_0⟩ := Kd.at_int HR0.out x18_1 p148 q148
                  cases e148
                  replace p148 := eq_true p148
                  replace q148 := eq_true q148
                  have p149 : 0 ≤ (x18_1 : Int) := of_decide_eq_true (by first | (with_reducible assumption) | assumption)
                  have q149 : x18_1 < (l1.length : Int) := of_decide_eq_true (by first | (with_reducible assumption) | assumption)
                  obtain ⟨ad149, e149, hx149_0⟩ := Kd.at_int HR1.out x18_1 p149 q149
                  cases e149
                  replace p149 := eq_true p149
                  replace q149 := eq_true q149
                  go_wp2
                  go_ret
                  exact ⟨by first | rfl | (simp; done) | (simp [*]; done), by repeat (first | exact HB.out | apply pw_below_drewN | apply below_drew1 | apply below_alloc)⟩
              · rw [if_neg c7] at H
                exact absurd H (by simp)
            · rw [if_neg c6] at H
              exact absurd H (by simp)
          · rw [if_neg c5] at H
            exact absurd H (by simp)
        · rw [if_neg c4] at H
          have c4b0 : decide (x18_1 < (l0.length : Int)) = false := decide_eq_false c4
          clear c4
          obtain rfl := Option.some.inj H
          go_wp2
          go_ret
          exact ⟨by first | rfl | (simp; done) | (simp [*]; done), by repeat (first | exact HB.out | apply pw_below_drewN | apply below_drew1 | apply below_alloc)⟩
  · rw [if_neg c3] at h
    have c3b0 : ((l0.length : Int) == (l1.length : Int)) = false := beq_eq_false_iff_ne.mpr c3
    have c3b1 : ((l0.length : Int) != (l1.length : Int)) = true := bne_iff_ne.mpr c3
    have c3b2 : (l0.length == l1.length) = false := by first | simpa using c3 | (simp at c3 ⊢; omega)
    obtain rfl := Option.some.inj h
    go_enter Try.func33, Try.ntmps33
    go_wp2
    go_ret
    exact ⟨by first | rfl | (simp; done) | (simp [*]; done), HB.out⟩

/-! ### impl_SetEqualsInt: function 13 -/
def impl_SetEqualsInt.f (k : Nat) (l0 : List Int) (l1 : List Int) : Option (Bool) := (some (([] : List Int) : List Int)).bind fun y148 => (if y148.length + l0.length < 17592186044416 then ((some (([] : List Int) : List Int)).bind fun y154 => (if y154.length + l1.length < 17592186044416 then ((util_SetEqualsInt.f k (y148 ++ l0) (y154 ++ l1)).bind fun t160 => (some t160)) else (none))) else (none))
theorem impl_SetEqualsInt.mono : ∀ a0 a1 k, LeO (impl_SetEqualsInt.f k a0 a1) (impl_SetEqualsInt.f (k + 1) a0 a1) := by
  intro a0 a1 k
  unfold impl_SetEqualsInt.f
  repeat' first
      | (with_reducible exact util_SetEqualsInt.mono _ _ _)
      | (with_reducible exact LeO.refl _)
      | (with_reducible exact LeO.none _)
      | (with_reducible refine LeO.ite ?_ ?_)
      | (with_reducible refine LeO.bind ?_ (fun _ => ?_))
      | exact util_SetEqualsInt.mono _ _ _
      | exact LeO.none _
      | refine LeO.ite ?_ ?_
      | refine LeO.bind ?_ (fun _ => ?_)
set_option maxHeartbeats 8000000 in
set_option maxRecDepth 100000 in
theorem impl_SetEqualsInt.calls (k : Nat) (A0 : Option Addr) (c0 : Nat) (l0 : List Int) (A1 : Option Addr) (c1 : Nat) (l1 : List Int) (r : Bool) (w : World) (hr0 : Kd.C (Kd.int .i64) w A0 l0.length l0) (hc0 : l0.length ≤ c0) (hr1 : Kd.C (Kd.int .i64) w A1 l1.length l1) (hc1 : l1.length ≤ c1) (h : impl_SetEqualsInt.f k l0 l1 = some r) :
    Calls Try.prog 13 #[.slice A0 l0.length c0, .slice A1 l1.length c1] w fun e w' => e = .returned (.bool r) ∧ Below w.heap.size w w' := by
  have HR0 := Aside0.mk hr0
  have HC0 := Aside0.mk hc0
  clear hr0 hc0
  have HR1 := Aside0.mk hr1
  have HC1 := Aside0.mk hc1
  clear hr1 hc1
  have HB := Aside0.mk (Below.refl w.heap.size w)
  have H : ((some (([] : List Int) : List Int)).bind fun y148 => (if y148.length + l0.length < 17592186044416 then ((some (([] : List Int) : List Int)).bind fun y154 => (if y154.length + l1.length < 17592186044416 then ((util_SetEqualsInt.f k (y148 ++ l0) (y154 ++ l1)).bind fun t160 => (some t160)) else (none))) else (none))) = some r := h
  clear h
  obtain ⟨y148, hy148⟩ : ∃ y_ : List Int, y_ = (([] : List Int)) := ⟨_, rfl⟩
  replace H : (if y148.length + l0.length < 17592186044416 then ((some (([] : List Int) : List Int)).bind fun y154 => (if y154.length + l1.length < 17592186044416 then ((util_SetEqualsInt.f k (y148 ++ l0) (y154 ++ l1)).bind fun t160 => (some t160)) else (none))) else (none)) = some r := by first | (rw [hy148]; with_reducible exact H) | (have H2_ := (Option.bind_some _ _).symm.trans H; rw [hy148]; with_reducible exact H2_) | (have H2_ := (Option.bind_some _ _).symm.trans H; with_reducible exact H2_) | with_reducible exact H | (rw [hy148]; exact H) | exact H
  have Ny148 := Aside0.mk hy148
  clear hy148
  by_cases c3 : y148.length + l0.length < 17592186044416
  · rw [if_pos c3] at H
    have LMc3 := Aside0.mk c3
    clear c3
    obtain ⟨y151, hy151⟩ : ∃ y_ : List Int, y_ = (y148 ++ l0) := ⟨_, rfl⟩
    replace H : ((some (([] : List Int) : List Int)).bind fun y154 => (if y154.length + l1.length < 17592186044416 then ((util_SetEqualsInt.f k y151 (y154 ++ l1)).bind fun t160 => (some t160)) else (none))) = some r := by first | (rw [hy151]; with_reducible exact H) | (have H2_ := (Option.bind_some _ _).symm.trans H; rw [hy151]; with_reducible exact H2_) | (have H2_ := (Option.bind_some _ _).symm.trans H; with_reducible exact H2_) | with_reducible exact H | (rw [hy151]; exact H) | exact H
    have Ny151 := Aside0.mk hy151
    clear hy151
    obtain ⟨y154, hy154⟩ : ∃ y_ : List Int, y_ = (([] : List Int)) := ⟨_, rfl⟩
    replace H : (if y154.length + l1.length < 17592186044416 then ((util_SetEqualsInt.f k y151 (y154 ++ l1)).bind fun t160 => (some t160)) else (none)) = some r := by first | (rw [hy154]; with_reducible exact H) | (have H2_ := (Option.bind_some _ _).symm.trans H; rw [hy154]; with_reducible exact H2_) | (have H2_ := (Option.bind_some _ _).symm.trans H; with_reducible exact H2_) | with_reducible exact H | (rw [hy154]; exact H) | exact H
    have Ny154 := Aside0.mk hy154
    clear hy154
    by_cases c4 : y154.length + l1.length < 17592186044416
    · rw [if_pos c4] at H
      have LMc4 := Aside0.mk c4
      clear c4
      obtain ⟨y157, hy157⟩ : ∃ y_ : List Int, y_ = (y154 ++ l1) := ⟨_, rfl⟩
      replace H : ((util_SetEqualsInt.f k y151 y157).bind fun t160 => (some t160)) = some r := by first | (rw [hy157]; with_reducible exact H) | (have H2_ := (Option.bind_some _ _).symm.trans H; rw [hy157]; with_reducible exact H2_) | (have H2_ := (Option.bind_some _ _).symm.trans H; with_reducible exact H2_) | with_reducible exact H | (rw [hy157]; exact H) | exact H
      have Ny157 := Aside0.mk hy157
      clear hy157
      replace H := Option.bind_eq_some_iff.mp H
      obtain ⟨t160, A50, H⟩ := H
      replace H : (some t160) = some r := H
      have A5 := Aside0.mk A50
      clear A50
      obtain rfl := Option.some.inj H
      go_enter Try.func13, Try.ntmps13
      go_wp2_with (first | ((with_reducible refine gate_dst (N := 5) rfl ?_); refine Kd.R_lit (Kd.int .i64) _ 3 ?hg (N := 5) ?hd (xs := ([] : List Int)) (inner := []) (ok := fun _ => True) (okp := fun _ => True) ?hr ?hp (fun _ hk => hk) trivial (Below.refl _ _) (Nat.le_refl _) (by simp) ?_; (case hd => rfl); (case hg => rfl); (case hr => first | (go_simp; done) | (go_simp; rfl)); (case hp => exact (Reps.none _ _)); intro v149 w6 ho7 hb hg_ hnew_; clear hg_ hnew_; (first | rw [← Ny148.out] at ho7 | (simp only [Int.reduceToNat] at ho7; rw [← Ny148.out] at ho7)); have n0_ := Aside0.mk (Kd.R_lower ho7 (below_size (by repeat (first | (with_reducible first | exact HB.out | apply below_alloc | apply pw_below_drewN | apply below_drew1) | exact HB.out)))); have n1_ := Aside0.mk (below_step (by repeat (first | (with_reducible first | exact HB.out | apply below_alloc | apply pw_below_drewN | apply below_drew1) | exact HB.out)) hb); clear HB; have HO150 := n0_; have HB := n1_; clear n0_ n1_; clear hb ho7) | ((with_reducible refine gate_builtin (b := .append) (xs := #[.tmp 5, .tmp 6]) rfl ?_); at_builtin; refine Kd.R_append_rows (Kd.int .i64) (w0 := w) w.heap.size rfl (.tmp 5) (.tmp 6) 23 3 (.int .i64 0) 8 rfl Try.underlying23 info3 rfl (by decide) (by omega) v149 y148 l0 _ _ _ (fun _ => True) (fun _ => False) rfl rfl ?aO ?aR (fun _ _ h => h) (fun _ h => h.elim) ?aF ?aB ?aS ?aL ?_; (case aR => repeat (first | exact (Kd.C_below HR0.out HB.out) | (with_reducible refine Kd.C_alloc ?_ _) | (with_reducible refine Kd.C_drewN ?_ _) | (with_reducible refine Kd.C_drew ?_))); (case aB => exact (by repeat (first | (with_reducible first | exact HB.out | apply below_alloc | apply pw_below_drewN | apply below_drew1) | exact HB.out))); (case aF => exact (fun _ _ => trivial)); (case aO => exact (by (with_reducible repeat (first | apply Kd.R_alloc | apply Kd.R_drewN | apply Kd.R_drew)); exact HO150.out)); (case aS => exact (below_size (by repeat (first | (with_reducible first | exact HB.out | apply below_alloc | apply pw_below_drewN | apply below_drew1) | exact HB.out)))); (case aL => have := LMc3.out; omega); intro v152 w8 ho hb hg hat; rw [← Ny151.out] at ho; have n0_ := Aside0.mk (hb); have n1_ := Aside0.mk (ho); clear HB; clear HO150; have HB := n0_; have HO153 := n1_; clear n0_ n1_; clear ho hb hg hat) | ((with_reducible refine gate_dst (N := 8) rfl ?_); refine Kd.R_lit (Kd.int .i64) _ 3 ?hg (N := 8) ?hd (xs := ([] : List Int)) (inner := []) (ok := fun _ => True) (okp := fun _ => True) ?hr ?hp (fun _ hk => hk) trivial (Below.refl _ _) (Nat.le_refl _) (by simp) ?_; (case hd => rfl); (case hg => rfl); (case hr => first | (go_simp; done) | (go_simp; rfl)); (case hp => exact (Reps.none _ _)); intro v155 w9 ho10 hb hg_ hnew_; clear hg_ hnew_; (first | rw [← Ny154.out] at ho10 | (simp only [Int.reduceToNat] at ho10; rw [← Ny154.out] at ho10)); have n0_ := Aside0.mk (Kd.R_elder' (by (with_reducible repeat (first | apply Kd.R_alloc | apply Kd.R_drewN | apply Kd.R_drew)); exact HO153.out) (Kd.R_base ho10) hb); have n1_ := Aside0.mk (Kd.R_lower (Kd.R_new' ho10 (Kd.R_lt (by (with_reducible repeat (first | apply Kd.R_alloc | apply Kd.R_drewN | apply Kd.R_drew)); exact HO153.out))) (below_size (by repeat (first | (with_reducible first | exact HB.out | apply below_alloc | apply pw_below_drewN | apply below_drew1) | exact HB.out)))); have n2_ := Aside0.mk (below_step (by repeat (first | (with_reducible first | exact HB.out | apply below_alloc | apply pw_below_drewN | apply below_drew1) | exact HB.out)) hb); clear HO153; clear HB; have HO153 := n0_; have HO156 := n1_; have HB := n2_; clear n0_ n1_ n2_; clear hb ho10) | ((with_reducible refine gate_builtin (b := .append) (xs := #[.tmp 8, .tmp 9]) rfl ?_); at_builtin; refine Kd.R_append_rows (Kd.int .i64) (w0 := w) w.heap.size rfl (.tmp 8) (.tmp 9) 23 3 (.int .i64 0) 8 rfl Try.underlying23 info3 rfl (by decide) (by omega) v155 y154 l1 _ _ _ (fun k_ => some k_ ≠ (v152 : Value).ownBlock) (fun _ => False) rfl rfl ?aO ?aR (fun _ _ h => h) (fun _ h => h.elim) ?aF ?aB ?aS ?aL ?_; (case aR => repeat (first | exact (Kd.C_below HR1.out HB.out) | (with_reducible refine Kd.C_alloc ?_ _) | (with_reducible refine Kd.C_drewN ?_ _) | (with_reducible refine Kd.C_drew ?_))); (case aB => exact (by repeat (first | (with_reducible first | exact HB.out | apply below_alloc | apply pw_below_drewN | apply below_drew1) | exact HB.out))); (case aF => exact (fun k_ hk => Kd.fresh' (Kd.R_lt (by (with_reducible repeat (first | apply Kd.R_alloc | apply Kd.R_drewN | apply Kd.R_drew)); exact HO153.out)) k_ hk)); (case aO => exact (by (with_reducible repeat (first | apply Kd.R_alloc | apply Kd.R_drewN | apply Kd.R_drew)); exact Kd.R_mono HO156.out (fun _ hk => hk.2))); (case aS => exact (below_size (by repeat (first | (with_reducible first | exact HB.out | apply below_alloc | apply pw_below_drewN | apply below_drew1) | exact HB.out)))); (case aL => have := LMc4.out; omega); intro v158 w11 ho hb hg hat; rw [← Ny157.out] at ho; have n0_ := Aside0.mk (Kd.R_after (ok := (fun _ => True)) (by (with_reducible repeat (first | apply Kd.R_alloc | apply Kd.R_drewN | apply Kd.R_drew)); exact HO153.out) hg hat); have n1_ := Aside0.mk (hb); have n2_ := Aside0.mk (ho); clear HO153; clear HB; clear HO156; have HO153 := n0_; have HB := n1_; have HO159 := n2_; clear n0_ n1_ n2_; clear ho hb hg hat; obtain ⟨Ao12, co12, eo12⟩ := Kd.R_slice HO153.out; subst eo12; obtain ⟨Ao13, co13, eo13⟩ := Kd.R_slice HO159.out; subst eo13) | ((with_reducible refine gate_callee (f := 33) rfl ?_); refine goesL_ (some 11) rfl rfl Try.func33 (by kernel_rfl) rfl #[.slice Ao12 y151.length co12, .slice Ao13 y157.length co13] rfl (by (try simp only [List.map_toArray, List.map_cons, List.map_nil]); first | done | rfl | (simp only [List.length_drop, List.length_take]; rfl)) ?_; have zc := util_SetEqualsInt.own k _ _ y151 y157 t160 w _ _ _ HO153.out HO159.out (fun k h1 h0 => (HO153.out.1 k h0.symm).2 h1.symm) HB.out A5.out; (with_reducible refine zc.mono ?_); clear zc; rintro e w14 ⟨rfl, hb⟩; refine ⟨_, rfl, ?_⟩; clear HO153; clear HO159; clear HB; have HB := Aside0.mk hb; (try clear hb)))
      go_ret
      exact ⟨by first | rfl | (simp [errW_none, errW_some] <;> rfl) | (simp [*, errW_none, errW_some] <;> rfl), by repeat (first | (with_reducible first | exact HB.out | apply below_alloc | apply pw_below_drewN | apply below_drew1) | exact HB.out)⟩
    · rw [if_neg c4] at H
      exact absurd H (by simp)
  · rw [if_neg c3] at H
    exact absurd H (by simp)

/-! ### spec_SameInts: function 14 -/
mutual
def spec_SameInts.l0 : Nat → List Int → List Int → Int → Option (Bool)
  | 0, _, _, _ => none
  | k + 1, x0, x1, x5 => if x5 < (x0.length : Int) then (spec_SameInts.l1 k x0 x1 x5 0 0 0) else (some true)
def spec_SameInts.l1 : Nat → List Int → List Int → Int → Int → Int → Int → Option (Bool)
  | 0, _, _, _, _, _, _ => none
  | k + 1, x0, x1, x5, x6, x7, x8 => if x8 < (x0.length : Int) then (if 0 ≤ x8 then (if 0 ≤ x5 then (if x5 < (x0.length : Int) then (if (rd x0 x8) = (rd x0 x5) then (if x8 < (x1.length : Int) then (if (rd x1 x8) = (rd x0 x5) then (spec_SameInts.l1 k x0 x1 x5 (wrap64 (x6 + 1)) (wrap64 (x7 + 1)) (wrap64 (x8 + 1))) else (spec_SameInts.l1 k x0 x1 x5 (wrap64 (x6 + 1)) x7 (wrap64 (x8 + 1)))) else (none)) else (if x8 < (x1.length : Int) then (if (rd x1 x8) = (rd x0 x5) then (spec_SameInts.l1 k x0 x1 x5 x6 (wrap64 (x7 + 1)) (wrap64 (x8 + 1))) else (spec_SameInts.l1 k x0 x1 x5 x6 x7 (wrap64 (x8 + 1)))) else (none))) else (none)) else (none)) else (none)) else (if x6 = x7 then (spec_SameInts.l0 k x0 x1 (wrap64 (x5 + 1))) else (some false))
end
def spec_SameInts.f (k : Nat) (l0 : List Int) (l1 : List Int) : Option (Bool) := if (l0.length : Int) = (l1.length : Int) then (spec_SameInts.l0 k l0 l1 0) else (some false)
theorem spec_SameInts.mono_l : ∀ k, (∀ y0 y1 y2, LeO (spec_SameInts.l0 k y0 y1 y2) (spec_SameInts.l0 (k + 1) y0 y1 y2)) ∧ (∀ y0 y1 y2 y3 y4 y5, LeO (spec_SameInts.l1 k y0 y1 y2 y3 y4 y5) (spec_SameInts.l1 (k + 1) y0 y1 y2 y3 y4 y5))
  | 0 => ⟨fun _ _ _ r h => by simp [spec_SameInts.l0] at h, fun _ _ _ _ _ _ r h => by simp [spec_SameInts.l1] at h⟩
  | k + 1 => by
    obtain ⟨ih0, ih1⟩ := spec_SameInts.mono_l k
    refine ⟨?_, ?_⟩
    · intro y0 y1 y2
      unfold spec_SameInts.l0
      repeat' first
      | (with_reducible exact ih0 _ _ _)
      | (with_reducible exact ih1 _ _ _ _ _ _)
      | (with_reducible exact LeO.refl _)
      | (with_reducible exact LeO.none _)
      | (with_reducible refine LeO.ite ?_ ?_)
      | (with_reducible refine LeO.bind ?_ (fun _ => ?_))
      | exact ih0 _ _ _
      | exact ih1 _ _ _ _ _ _
      | exact LeO.none _
      | refine LeO.ite ?_ ?_
      | refine LeO.bind ?_ (fun _ => ?_)
    · intro y0 y1 y2 y3 y4 y5
      unfold spec_SameInts.l1
      repeat' first
      | (with_reducible exact ih0 _ _ _)
      | (with_reducible exact ih1 _ _ _ _ _ _)
      | (with_reducible exact LeO.refl _)
      | (with_reducible exact LeO.none _)
      | (with_reducible refine LeO.ite ?_ ?_)
      | (with_reducible refine LeO.bind ?_ (fun _ => ?_))
      | exact ih0 _ _ _
      | exact ih1 _ _ _ _ _ _
      | exact LeO.none _
      | refine LeO.ite ?_ ?_
      | refine LeO.bind ?_ (fun _ => ?_)
theorem spec_SameInts.mono : ∀ a0 a1 k, LeO (spec_SameInts.f k a0 a1) (spec_SameInts.f (k + 1) a0 a1) := by
  intro a0 a1 k
  obtain ⟨ih0, ih1⟩ := spec_SameInts.mono_l k
  unfold spec_SameInts.f
  repeat' first
      | (with_reducible exact ih0 _ _ _)
      | (with_reducible exact ih1 _ _ _ _ _ _)
      | (with_reducible exact LeO.refl _)
      | (with_reducible exact LeO.none _)
      | (with_reducible refine LeO.ite ?_ ?_)
      | (with_reducible refine LeO.bind ?_ (fun _ => ?_))
      | exact ih0 _ _ _
      | exact ih1 _ _ _ _ _ _
      | exact LeO.none _
      | refine LeO.ite ?_ ?_
      | refine LeO.bind ?_ (fun _ => ?_)
set_option maxHeartbeats 8000000 in
set_option maxRecDepth 100000 in
theorem spec_SameInts.calls (k : Nat) (A0 : Option Addr) (c0 : Nat) (l0 : List Int) (A1 : Option Addr) (c1 : Nat) (l1 : List Int) (r : Bool) (w : World) (hr0 : Kd.C (Kd.int .i64) w A0 l0.length l0) (hc0 : l0.length ≤ c0) (hr1 : Kd.C (Kd.int .i64) w A1 l1.length l1) (hc1 : l1.length ≤ c1) (h : spec_SameInts.f k l0 l1 = some r) :
    Calls Try.prog 14 #[.slice A0 l0.length c0, .slice A1 l1.length c1] w fun e w' => e = .returned (.bool r) ∧ Drawn0 w w' := by
  have HR0 := Aside0.mk hr0
  have HC0 := Aside0.mk hc0
  clear hr0 hc0
  have HR1 := Aside0.mk hr1
  have HC1 := Aside0.mk hc1
  clear hr1 hc1
  have H : (if (l0.length : Int) = (l1.length : Int) then (spec_SameInts.l0 k l0 l1 0) else (some false)) = some r := h
  clear h
  by_cases c3 : (l0.length : Int) = (l1.length : Int)
  · rw [if_pos c3] at H
    have c3b0 : ((l0.length : Int) == (l1.length : Int)) = true := beq_iff_eq.mpr c3
    have c3b1 : ((l0.length : Int) != (l1.length : Int)) = false := bne_eq_false_iff_eq.mpr c3
    have c3b2 : (l0.length == l1.length) = true := by first | simpa using c3 | (simp at c3 ⊢; omega)
    clear c3
    have H' := Aside0.mk H
    clear H
    go_enter Try.func14, Try.ntmps14
    go_wp2
    repeat (go_quiet (fail); try go_wp2)
    go_loopg [5] k (fun kq v5 w' => ∃ (x5_1 : Int), v5 = .int .i64 x5_1 ∧ Aside0 (spec_SameInts.l0 kq l0 l1 x5_1 = some r) ∧ Aside0 (kq ≤ k) ∧ Drawn0 w w')
    case atStart => exact ⟨(0), (by first | rfl | (simp; done) | (simp [*]; done)), H', ⟨Nat.le_refl _⟩, by repeat (first | exact Drawn0.refl _ | apply Drawn0.step)⟩
    case round =>
      clear H'
      try clear c1
      try clear p2
      try clear c3
      try clear c3b0
      try clear c3b1
      try clear c3b2
      obtain ⟨x5_1, rfl, HA, HK1, ⟨m1, rfl⟩⟩ := hrel
      cases gk with
      | zero => exact absurd HA.out (by simp [spec_SameInts.l0])
      | succ k1 =>
        have H := HA.out
        clear HA
        simp only [spec_SameInts.l0] at H
        by_cases c4 : x5_1 < (l0.length : Int)
        · rw [if_pos c4] at H
          have c4b0 : decide (x5_1 < (l0.length : Int)) = true := decide_eq_true c4
          clear c4
          have H' := Aside0.mk H
          clear H
          go_wp2
          repeat (go_quiet (fail); try go_wp2)
          go_loopg [6, 7, 8] k1 (fun kq v6 v7 v8 w' => ∃ (x6_2 : Int) (x7_2 : Int) (x8_2 : Int), v6 = .int .i64 x6_2 ∧ v7 = .int .i64 x7_2 ∧ v8 = .int .i64 x8_2 ∧ Aside0 (spec_SameInts.l1 kq l0 l1 x5_1 x6_2 x7_2 x8_2 = some r) ∧ Aside0 (kq ≤ k1) ∧ Drawn0 w w')
          case atStart => exact ⟨(0), (0), (0), (by first | rfl | (simp; done) | (simp [*]; done)), (by first | rfl | (simp; done) | (simp [*]; done)), (by first | rfl | (simp; done) | (simp [*]; done)), H', ⟨Nat.le_refl _⟩, by repeat (first | exact Drawn0.refl _ | apply Drawn0.step)⟩
          case round =>
            clear H'
            try clear c1
            try clear p2
            try clear c3
            try clear c3b0
            try clear c3b1
            try clear c3b2
            try clear c4
            try clear c4b0
            try clear p2
            obtain ⟨x6_2, x7_2, x8_2, rfl, rfl, rfl, HA, HK2, ⟨m2, rfl⟩⟩ := hrel
            cases gk with
            | zero => exact absurd HA.out (by simp [spec_SameInts.l1])
            | succ k2 =>
              have H := HA.out
              clear HA
              simp only [spec_SameInts.l1] at H
              by_cases c5 : x8_2 < (l0.length : Int)
              · rw [if_pos c5] at H
                have c5b0 : decide (x8_2 < (l0.length : Int)) = true := decide_eq_true c5
                clear c5
                by_cases c6 : 0 ≤ x8_2
                · rw [if_pos c6] at H
                  have c6b0 : decide (0 ≤ x8_2) = true := decide_eq_true c6
                  clear c6
                  by_cases c7 : 0 ≤ x5_1
                  · rw [if_pos c7] at H
                    have c7b0 : decide (0 ≤ x5_1) = true := decide_eq_true c7
                    clear c7
                    by_cases c8 : x5_1 < (l0.length : Int)
                    · rw [if_pos c8] at H
                      have c8b0 : decide (x5_1 < (l0.length : Int)) = true := decide_eq_true c8
                      clear c8
                      by_cases c9 : (rd l0 x8_2) = (rd l0 x5_1)
                      · rw [if_pos c9] at H
                        have c9b0 : ((rd l0 x8_2) == (rd l0 x5_1)) = true := beq_iff_eq.mpr c9
                        have c9b1 : ((rd l0 x8_2) != (rd l0 x5_1)) = false := bne_eq_false_iff_eq.mpr c9
                        clear c9
                        by_cases c10 : x8_2 < (l1.length : Int)
                        · rw [if_pos c10] at H
                          have c10b0 : decide (x8_2 < (l1.length : Int)) = true := decide_eq_true c10
                          clear c10
                          by_cases c11 : (rd l1 x8_2) = (rd l0 x5_1)
                          · rw [if_pos c11] at H
                            have c11b0 : ((rd l1 x8_2) == (rd l0 x5_1)) = true := beq_iff_eq.mpr c11
                            have c11b1 : ((rd l1 x8_2) != (rd l0 x5_1)) = false := bne_eq_false_iff_eq.mpr c11
                            clear c11
                            have H' := Aside0.mk H
                            clear H
                            have p161 : 0 ≤ (x8_2 : Int) := of_decide_eq_true (by first | (with_reducible assumption) | assumption)
                            have q161 : x8_2 < (l0.length : Int) := of_decide_eq_true (by first | (with_reducible assumption) | assumption)
                            obtain ⟨ad161, e161, hx161_0⟩ := Kd.at_int HR0.out x8_2 p161 q161
                            cases e161
                            replace p161 := eq_true p161
                            replace q161 := eq_true q161
                            have p162 : 0 ≤ (x5_1 : Int) := of_decide_eq_true (by first | (with_reducible assumption) | assumption)
                            have q162 : x5_1 < (l0.length : Int) := of_decide_eq_true (by first | (with_reducible assumption) | assumption)
                            obtain ⟨ad162, e162, hx162_0⟩ := Kd.at_int HR0.out x5_1 p162 q162
                            obtain rfl : ad161 = ad162 := (by injection e162)
                            replace p162 := eq_true p162
                            replace q162 := eq_true q162
                            have p163 : 0 ≤ (x8_2 : Int) := of_decide_eq_true (by first | (with_reducible assumption) | assumption)
                            have q163 : x8_2 < (l1.length : Int) := of_decide_eq_true (by first | (with_reducible assumption) | assumption)
                            obtain ⟨ad163, e163, hx163_0⟩ := Kd.at_int HR1.out x8_2 p163 q163
                            cases e163
                            replace p163 := eq_true p163
                            replace q163 := eq_true q163
                            have p164 : 0 ≤ (x5_1 : Int) := of_decide_eq_true (by first | (with_reducible assumption) | assumption)
                            have q164 : x5_1 < (l0.length : Int) := of_decide_eq_true (by first | (with_reducible assumption) | assumption)
                            obtain ⟨ad164, e164, hx164_0⟩ := Kd.at_int HR0.out x5_1 p164 q164
                            obtain rfl : ad161 = ad164 := (by injection e164)
                            replace p164 := eq_true p164
                            replace q164 := eq_true q164
                            go_wp2
                            repeat (go_quiet (fail); try go_wp2)
                            go_roundg k2
                            case measure => have := HK1.out; have := HK2.out; omega
                            case rel => exact ⟨(wrap64 (x6_2 + 1)), (wrap64 (x7_2 + 1)), (wrap64 (x8_2 + 1)), (by first | rfl | (simp; done) | (simp [*]; done)), (by first | rfl | (simp; done) | (simp [*]; done)), (by first | rfl | (simp; done) | (simp [*]; done)), H', ⟨by have := HK1.out; have := HK2.out; omega⟩, by repeat (first | exact Drawn0.refl _ | apply Drawn0.step)⟩
                          · rw [if_neg c11] at H
                            have c11b0 : ((rd l1 x8_2) == (rd l0 x5_1)) = false := beq_eq_false_iff_ne.mpr c11
                            have c11b1 : ((rd l1 x8_2) != (rd l0 x5_1)) = true := bne_iff_ne.mpr c11
                            have H' := Aside0.mk H
                            clear H
                            have p161 : 0 ≤ (x8_2 : Int) := of_decide_eq_true (by first | (with_reducible assumption) | assumption)
                            have q161 : x8_2 < (l0.length : Int) := of_decide_eq_true (by first | (with_reducible assumption) | assumption)
                            obtain ⟨ad161, e161, hx161_0⟩ := Kd.at_int HR0.out x8_2 p161 q161
                            cases e161
                            replace p161 := eq_true p161
                            replace q161 := eq_true q161
                            have p162 : 0 ≤ (x5_1 : Int) := of_decide_eq_true (by first | (with_reducible assumption) | assumption)
                            have q162 : x5_1 < (l0.length : Int) := of_decide_eq_true (by first | (with_reducible assumption) | assumption)
                            obtain ⟨ad162, e162, hx162_0⟩ := Kd.at_int HR0.out x5_1 p162 q162
                            obtain rfl : ad161 = ad162 := (by injection e162)
                            replace p162 := eq_true p162
                            replace q162 := eq_true q162
                            have p163 : 0 ≤ (x8_2 : Int) := of_decide_eq_true (by first | (with_reducible assumption) | assumption)
                            have q163 : x8_2 < (l1.length : Int) := of_decide_eq_true (by first | (with_reducible assumption) | assumption)
                            obtain ⟨ad163, e163, hx163_0⟩ := Kd.at_int HR1.out x8_2 p163 q163
                            cases e163
                            replace p163 := eq_true p163
                            replace q163 := eq_true q163
                            have p164 : 0 ≤ (x5_1 : Int) := of_decide_eq_true (by first | (with_reducible assumption) | assumption)
                            have q164 : x5_1 < (l0.length : Int) := of_decide_eq_true (by first | (with_reducible assumption) | assumption)
                            obtain ⟨ad164, e164, hx164_0⟩ := Kd.at_int HR0.out x5_1 p164 q164
                            obtain rfl : ad161 = ad164 := (by injection e164)
                            replace p164 := eq_true p164
                            replace q164 := eq_true q164
                            go_wp2
                            repeat (go_quiet (fail); try go_wp2)
                            go_roundg k2
                            case measure => have := HK1.out; have := HK2.out; omega
                            case rel => exact ⟨(wrap64 (x6_2 + 1)), (x7_2), (wrap64 (x8_2 + 1)), (by first | rfl | (simp; done) | (simp [*]; done)), (by first | rfl | (simp; done) | (simp [*]; done)), (by first | rfl | (simp; done) | (simp [*]; done)), H', ⟨by have := HK1.out; have := HK2.out; omega⟩, by repeat (first | exact Drawn0.refl _ | apply Drawn0.step)⟩
                        · rw [if_neg c10] at H
                          exact absurd H (by simp)
                      · rw [if_neg c9] at H
                        have c9b0 : ((rd l0 x8_2) == (rd l0 x5_1)) = false := beq_eq_false_iff_ne.mpr c9
                        have c9b1 : ((rd l0 x8_2) != (rd l0 x5_1)) = true := bne_iff_ne.mpr c9
                        by_cases c12 : x8_2 < (l1.length : Int)
                        · rw [if_pos c12] at H
                          have c12b0 : decide (x8_2 < (l1.length : Int)) = true := decide_eq_true c12
                          clear c12
                          by_cases c13 : (rd l1 x8_2) = (rd l0 x5_1)
                          · rw [if_pos c13] at H
                            have c13b0 : ((rd l1 x8_2) == (rd l0 x5_1)) = true := beq_iff_eq.mpr c13
                            have c13b1 : ((rd l1 x8_2) != (rd l0 x5_1)) = false := bne_eq_false_iff_eq.mpr c13
                            clear c13
                            have H' := Aside0.mk H
                            clear H
                            have p161 : 0 ≤ (x8_2 : Int) := of_decide_eq_true (by first | (with_reducible assumption) | assumption)
                            have q161 : x8_2 < (l0.length : Int) := of_decide_eq_true (by first | (with_reducible assumption) | assumption)
                            obtain ⟨ad161, e161, hx161_0⟩ := Kd.at_int HR0.out x8_2 p161 q161
                            cases e161
                            replace p161 := eq_true p161
                            replace q161 := eq_true q161
                            have p162 : 0 ≤ (x5_1 : Int) := of_decide_eq_true (by first | (with_reducible assumption) | assumption)
                            have q162 : x5_1 < (l0.length : Int) := of_decide_eq_true (by first | (with_reducible assumption) | assumption)
                            obtain ⟨ad162, e162, hx162_0⟩ := Kd.at_int HR0.out x5_1 p162 q162
                            obtain rfl : ad161 = ad162 := (by injection e162)
                            replace p162 := eq_true p162
                            replace q162 := eq_true q162
                            have p165 : 0 ≤ (x8_2 : Int) := of_decide_eq_true (by first | (with_reducible assumption) | assumption)
                            have q165 : x8_2 < (l1.length : Int) := of_decide_eq_true (by first | (with_reducible assumption) | assumption)
                            obtain ⟨ad165, e165, hx165_0⟩ := Kd.at_int HR1.out x8_2 p165 q165
                            cases e165
                            replace p165 := eq_true p165
                            replace q165 := eq_true q165
                            have p166 : 0 ≤ (x5_1 : Int) := of_decide_eq_true (by first | (with_reducible assumption) | assumption)
                            have q166 : x5_1 < (l0.length : Int) := of_decide_eq_true (by first | (with_reducible assumption) | assumption)
                            obtain ⟨ad166, e166, hx166_0⟩ := Kd.at_int HR0.out x5_1 p166 q166
                            obtain rfl : ad161 = ad166 := (by injection e166)
                            replace p166 := eq_true p166
                            replace q166 := eq_true q166
                            go_wp2
                            repeat (go_quiet (fail); try go_wp2)
                            go_roundg k2
                            case measure => have := HK1.out; have := HK2.out; omega
                            case rel => exact ⟨(x6_2), (wrap64 (x7_2 + 1)), (wrap64 (x8_2 + 1)), (by first | rfl | (simp; done) | (simp [*]; done)), (by first | rfl | (simp; done) | (simp [*]; done)), (by first | rfl | (simp; done) | (simp [*]; done)), H', ⟨by have := HK1.out; have := HK2.out; omega⟩, by repeat (first | exact Drawn0.refl _ | apply Drawn0.step)⟩
                          · rw [if_neg c13] at H
                            have c13b0 : ((rd l1 x8_2) == (rd l0 x5_1)) = false := beq_eq_false_iff_ne.mpr c13
                            have c13b1 : ((rd l1 x8_2) != (rd l0 x5_1)) = true := bne_iff_ne.mpr c13
                            have H' := Aside0.mk H
                            clear H
                            have p161 : 0 ≤ (x8_2 : Int) := of_decide_eq_true (by first | (with_reducible assumption) | assumption)
                            have q161 : x8_2 < (l0.length : Int) := of_decide_eq_true (by first | (with_reducible assumption) | assumption)
                            obtain ⟨ad161, e161, hx161_0⟩ := Kd.at_int HR0.out x8_2 p161 q161
                            cases e161
                            replace p161 := eq_true p161
                            replace q161 := eq_true q161
                            have p162 : 0 ≤ (x5_1 : Int) := of_decide_eq_true (by first | (with_reducible assumption) | assumption)
                            have q162 : x5_1 < (l0.length : Int) := of_decide_eq_true (by first | (with_reducible assumption) | assumption)
                            obtain ⟨ad162, e162, hx162_0⟩ := Kd.at_int HR0.out x5_1 p162 q162
                            obtain rfl : ad161 = ad162 := (by injection e162)
                            replace p162 := eq_true p162
                            replace q162 := eq_true q162
                            have p165 : 0 ≤ (x8_2 : Int) := of_decide_eq_true (by first | (with_reducible assumption) | assumption)
                            have q165 : x8_2 < (l1.length : Int) := of_decide_eq_true (by first | (with_reducible assumption) | assumption)
                            obtain ⟨ad165, e165, hx165_0⟩ := Kd.at_int HR1.out x8_2 p165 q165
                            cases e165
                            replace p165 := eq_true p165
                            replace q165 := eq_true q165
                            have p166 : 0 ≤ (x5_1 : Int) := of_decide_eq_true (by first | (with_reducible assumption) | assumption)
                            have q166 : x5_1 < (l0.length : Int) := of_decide_eq_true (by first | (with_reducible assumption) | assumption)
                            obtain ⟨ad166, e166, hx166_0⟩ := Kd.at_int HR0.out x5_1 p166 q166
                            obtain rfl : ad161 = ad166 := (by injection e166)
                            replace p166 := eq_true p166
                            replace q166 := eq_true q166
                            go_wp2
                            repeat (go_quiet (fail); try go_wp2)
                            go_roundg k2
                            case measure => have := HK1.out; have := HK2.out; omega
                            case rel => exact ⟨(x6_2), (x7_2), (wrap64 (x8_2 + 1)), (by first | rfl | (simp; done) | (simp [*]; done)), (by first | rfl | (simp; done) | (simp [*]; done)), (by first | rfl | (simp; done) | (simp [*]; done)), H', ⟨by have := HK1.out; have := HK2.out; omega⟩, by repeat (first | exact Drawn0.refl _ | apply Drawn0.step)⟩
                        · rw [if_neg c12] at H
                          exact absurd H (by simp)
                    · rw [if_neg c8] at H
                      exact absurd H (by simp)
                  · rw [if_neg c7] at H
                    exact absurd H (by simp)
                · rw [if_neg c6] at H
                  exact absurd H (by simp)
              · rw [if_neg c5] at H
                have c5b0 : decide (x8_2 < (l0.length : Int)) = false := decide_eq_false c5
                clear c5
                by_cases c14 : x6_2 = x7_2
                · rw [if_pos c14] at H
                  have c14b0 : (x6_2 == x7_2) = true := beq_iff_eq.mpr c14
                  have c14b1 : (x6_2 != x7_2) = false := bne_eq_false_iff_eq.mpr c14
                  clear c14
                  have H' := Aside0.mk H
                  clear H
                  go_wp2
                  repeat (go_quiet (fail); try go_wp2)
                  go_roundg k2
                  case measure => have := HK1.out; have := HK2.out; omega
                  case rel => exact ⟨(wrap64 (x5_1 + 1)), (by first | rfl | (simp; done) | (simp [*]; done)), H', ⟨by have := HK1.out; have := HK2.out; omega⟩, by repeat (first | exact Drawn0.refl _ | apply Drawn0.step)⟩
                · rw [if_neg c14] at H
                  have c14b0 : (x6_2 == x7_2) = false := beq_eq_false_iff_ne.mpr c14
                  have c14b1 : (x6_2 != x7_2) = true := bne_iff_ne.mpr c14
                  obtain rfl := Option.some.inj H
                  go_wp2
                  repeat (go_quiet (fail); try go_wp2)
                  go_ret
                  exact ⟨by first | rfl | (simp; done) | (simp [*]; done), by repeat (first | exact Drawn0.refl _ | apply Drawn0.step)⟩
        · rw [if_neg c4] at H
          have c4b0 : decide (x5_1 < (l0.length : Int)) = false := decide_eq_false c4
          clear c4
          obtain rfl := Option.some.inj H
          go_wp2
          repeat (go_quiet (fail); try go_wp2)
          go_ret
          exact ⟨by first | rfl | (simp; done) | (simp [*]; done), by repeat (first | exact Drawn0.refl _ | apply Drawn0.step)⟩
  · rw [if_neg c3] at H
    have c3b0 : ((l0.length : Int) == (l1.length : Int)) = false := beq_eq_false_iff_ne.mpr c3
    have c3b1 : ((l0.length : Int) != (l1.length : Int)) = true := bne_iff_ne.mpr c3
    have c3b2 : (l0.length == l1.length) = false := by first | simpa using c3 | (simp at c3 ⊢; omega)
    obtain rfl := Option.some.inj H
    go_enter Try.func14, Try.ntmps14
    go_wp2
    repeat (go_quiet (fail); try go_wp2)
    go_ret
    exact ⟨by first | rfl | (simp; done) | (simp [*]; done), by repeat (first | exact Drawn0.refl _ | apply Drawn0.step)⟩

end Go.Proofs.Ythmkbojkhoaolaa.PFnSetEquals
