/- Written by the kit's print for this claim and turned by one fact more at sums of lengths: each function of this text answers what its Lean function answers; no condition beyond what each theorem says. -/
import Derived.Test.YtdhmlcnlklcofaaPFnKeyMatchx0
import Derived.Test.YtdhmlcnlklcofaaMFnKeyMatchx2
namespace Go.Proofs.Ytdhmlcnlklcofaa.PFnKeyMatch
open Go.RowKit Go.Proofs.YtdhmlcnlklcofaaW.PrintWords Go.Proofs.YtdhmlcnlklcofaaW.PrintLast Go.Proofs.YtdhmlcnlklcofaaW.PrintMore
attribute [local go_sem] max2_int min2_int max_two min_two max_three min_three max_four min_four   -- for this text's walks alone
set_option linter.unusedVariables false
set_option linter.unusedSimpArgs false

/-! ### util_ArrayEquals: function 55 -/
def util_ArrayEquals.l0 : Nat → List ByteArray → List ByteArray → Int → Int → Option (Bool)
  | 0, _, _, _, _ => none
  | k + 1, x1, x12, x13, x14 => if x14 < x13 then (if 0 ≤ x14 then (if x14 < (x12.length : Int) then (if x14 < (x1.length : Int) then (if (rdOf ByteArray.empty x12 x14).toList = (rdOf ByteArray.empty x1 x14).toList then (util_ArrayEquals.l0 k x1 x12 x13 (wrap64 (x14 + 1))) else (some false)) else (none)) else (none)) else (none)) else (some true)
def util_ArrayEquals.f (k : Nat) (l0 : List ByteArray) (l1 : List ByteArray) : Option (Bool) := if (l0.length : Int) = (l1.length : Int) then (util_ArrayEquals.l0 k l1 l0 (l0.length : Int) 0) else (some false)
theorem util_ArrayEquals.mono_l : ∀ k, (∀ y0 y1 y2 y3, LeO (util_ArrayEquals.l0 k y0 y1 y2 y3) (util_ArrayEquals.l0 (k + 1) y0 y1 y2 y3))
  | 0 => fun _ _ _ _ r h => by simp [util_ArrayEquals.l0] at h
  | k + 1 => by
    have ih0 := util_ArrayEquals.mono_l k
    · intro y0 y1 y2 y3
      unfold util_ArrayEquals.l0
      repeat' first
      | (with_reducible exact ih0 _ _ _ _)
      | (with_reducible exact LeO.refl _)
      | (with_reducible exact LeO.none _)
      | (with_reducible refine LeO.ite ?_ ?_)
      | (with_reducible refine LeO.bind ?_ (fun _ => ?_))
      | exact ih0 _ _ _ _
      | exact LeO.none _
      | refine LeO.ite ?_ ?_
      | refine LeO.bind ?_ (fun _ => ?_)
theorem util_ArrayEquals.mono : ∀ a0 a1 k, LeO (util_ArrayEquals.f k a0 a1) (util_ArrayEquals.f (k + 1) a0 a1) := by
  intro a0 a1 k
  have ih0 := util_ArrayEquals.mono_l k
  unfold util_ArrayEquals.f
  repeat' first
      | (with_reducible exact ih0 _ _ _ _)
      | (with_reducible exact LeO.refl _)
      | (with_reducible exact LeO.none _)
      | (with_reducible refine LeO.ite ?_ ?_)
      | (with_reducible refine LeO.bind ?_ (fun _ => ?_))
      | exact ih0 _ _ _ _
      | exact LeO.none _
      | refine LeO.ite ?_ ?_
      | refine LeO.bind ?_ (fun _ => ?_)
set_option maxHeartbeats 8000000 in
set_option maxRecDepth 100000 in
theorem util_ArrayEquals.calls (k : Nat) (A0 : Option Addr) (c0 : Nat) (l0 : List ByteArray) (A1 : Option Addr) (c1 : Nat) (l1 : List ByteArray) (r : Bool) (w : World) (hr0 : Kd.C Kd.string w A0 l0.length l0) (hc0 : l0.length ≤ c0) (hr1 : Kd.C Kd.string w A1 l1.length l1) (hc1 : l1.length ≤ c1) (h : util_ArrayEquals.f k l0 l1 = some r) :
    Calls Try.prog 55 #[.slice A0 l0.length c0, .slice A1 l1.length c1] w fun e w' => e = .returned (.bool r) ∧ Drawn0 w w' := by
  have HR0 := Aside0.mk hr0
  have HC0 := Aside0.mk hc0
  clear hr0 hc0
  have HR1 := Aside0.mk hr1
  have HC1 := Aside0.mk hc1
  clear hr1 hc1
  have H : (if (l0.length : Int) = (l1.length : Int) then (util_ArrayEquals.l0 k l1 l0 (l0.length : Int) 0) else (some false)) = some r := h
  clear h
  by_cases c3 : (l0.length : Int) = (l1.length : Int)
  · rw [if_pos c3] at H
    have c3b0 : ((l0.length : Int) == (l1.length : Int)) = true := beq_iff_eq.mpr c3
    have c3b1 : ((l0.length : Int) != (l1.length : Int)) = false := bne_eq_false_iff_eq.mpr c3
    have c3b2 : (l0.length == l1.length) = true := by first | simpa using c3 | (simp at c3 ⊢; omega)
    clear c3
    have H' := Aside0.mk H
    clear H
    go_enter Try.func55, Try.ntmps55
    go_wp2
    go_loopg [14] k (fun kq v14 w' => ∃ (x14_1 : Int), v14 = .int .i64 x14_1 ∧ Aside0 (util_ArrayEquals.l0 kq l1 l0 (l0.length : Int) x14_1 = some r) ∧ Aside0 (kq ≤ k) ∧ Drawn0 w w')
    case atStart => exact ⟨(0), (by first | rfl | (simp; done) | (simp [*]; done)), H', ⟨Nat.le_refl _⟩, by repeat (first | exact Drawn0.refl _ | apply Drawn0.step)⟩
    case round =>
      clear H'
      try clear c1
      try clear p2
      try clear c3
      try clear c3b0
      try clear c3b1
      try clear c3b2
      obtain ⟨x14_1, rfl, HA, HK1, ⟨m1, rfl⟩⟩ := hrel
      cases gk with
      | zero => exact absurd HA.out (by simp [util_ArrayEquals.l0])
      | succ k1 =>
        have H := HA.out
        clear HA
        simp only [util_ArrayEquals.l0] at H
        by_cases c4 : x14_1 < (l0.length : Int)
        · rw [if_pos c4] at H
          have c4b0 : decide (x14_1 < (l0.length : Int)) = true := decide_eq_true c4
          clear c4
          by_cases c5 : 0 ≤ x14_1
          · rw [if_pos c5] at H
            have c5b0 : decide (0 ≤ x14_1) = true := decide_eq_true c5
            clear c5
            by_cases c6 : x14_1 < (l0.length : Int)
            · rw [if_pos c6] at H
              have c6b0 : decide (x14_1 < (l0.length : Int)) = true := decide_eq_true c6
              clear c6
              by_cases c7 : x14_1 < (l1.length : Int)
              · rw [if_pos c7] at H
                have c7b0 : decide (x14_1 < (l1.length : Int)) = true := decide_eq_true c7
                clear c7
                by_cases c8 : (rdOf ByteArray.empty l0 x14_1).toList = (rdOf ByteArray.empty l1 x14_1).toList
                · rw [if_pos c8] at H
                  have c8b0 : ((rdOf ByteArray.empty l0 x14_1).toList == (rdOf ByteArray.empty l1 x14_1).toList) = true := beq_iff_eq.mpr c8
                  have c8b1 : ((rdOf ByteArray.empty l0 x14_1).toList != (rdOf ByteArray.empty l1 x14_1).toList) = false := bne_eq_false_iff_eq.mpr c8
                  clear c8
                  have H' := Aside0.mk H
                  clear H
                  have p110 : 0 ≤ (x14_1 : Int) := of_decide_eq_true (by first | (with_reducible assumption) | assumption)
                  have q110 : x14_1 < (l0.length : Int) := of_decide_eq_true (by first | (with_reducible assumption) | assumption)
                  obtain ⟨ad110, e110, hx110_0⟩ := Kd.at_string HR0.out x14_1 p110 q110
                  cases e110
                  replace p110 := eq_true p110
                  replace q110 := eq_true q110
                  have p111 : 0 ≤ (x14_1 : Int) := of_decide_eq_true (by first | (with_reducible assumption) | assumption)
                  have q111 : x14_1 < (l1.length : Int) := of_decide_eq_true (by first | (with_reducible assumption) | assumption)
                  obtain ⟨ad111, e111, hx111_0⟩ := Kd.at_string HR1.out x14_1 p111 q111
                  cases e111
                  replace p111 := eq_true p111
                  replace q111 := eq_true q111
                  go_wp2
                  go_roundg k1
                  case measure => have := HK1.out; omega
                  case rel => exact ⟨(wrap64 (x14_1 + 1)), (by first | rfl | (simp; done) | (simp [*]; done)), H', ⟨by have := HK1.out; omega⟩, by repeat (first | exact Drawn0.refl _ | apply Drawn0.step)⟩
                · rw [if_neg c8] at H
                  have c8b0 : ((rdOf ByteArray.empty l0 x14_1).toList == (rdOf ByteArray.empty l1 x14_1).toList) = false := beq_eq_false_iff_ne.mpr c8
                  have c8b1 : ((rdOf ByteArray.empty l0 x14_1).toList != (rdOf ByteArray.empty l1 x14_1).toList) = true := bne_iff_ne.mpr c8
                  obtain rfl := Option.some.inj H
                  have p110 : 0 ≤ (x14_1 : Int) := of_decide_eq_true (by first | (with_reducible assumption) | assumption)
                  have q110 : x14_1 < (l0.length : Int) := of_decide_eq_true (by first | (with_reducible assumption) | assumption)
                  obtain ⟨ad110, e110, hx110_0⟩ := Kd.at_string HR0.out x14_1 p110 q110
                  cases e110
                  replace p110 := eq_true p110
                  replace q110 := eq_true q110
                  have p111 : 0 ≤ (x14_1 : Int) := of_decide_eq_true (by first | (with_reducible assumption) | assumption)
                  have q111 : x14_1 < (l1.length : Int) := of_decide_eq_true (by first | (with_reducible assumption) | assumption)
                  obtain ⟨ad111, e111, hx111_0⟩ := Kd.at_string HR1.out x14_1 p111 q111
                  cases e111
                  replace p111 := eq_true p111
                  replace q111 := eq_true q111
                  go_wp2
                  go_ret
                  exact ⟨by first | rfl | (simp; done) | (simp [*]; done), by repeat (first | exact Drawn0.refl _ | apply Drawn0.step)⟩
              · rw [if_neg c7] at H
                exact absurd H (by simp)
            · rw [if_neg c6] at H
              exact absurd H (by simp)
          · rw [if_neg c5] at H
            exact absurd H (by simp)
        · rw [if_neg c4] at H
          have c4b0 : decide (x14_1 < (l0.length : Int)) = false := decide_eq_false c4
          clear c4
          obtain rfl := Option.some.inj H
          go_wp2
          go_ret
          exact ⟨by first | rfl | (simp; done) | (simp [*]; done), by repeat (first | exact Drawn0.refl _ | apply Drawn0.step)⟩
  · rw [if_neg c3] at H
    have c3b0 : ((l0.length : Int) == (l1.length : Int)) = false := beq_eq_false_iff_ne.mpr c3
    have c3b1 : ((l0.length : Int) != (l1.length : Int)) = true := bne_iff_ne.mpr c3
    have c3b2 : (l0.length == l1.length) = false := by first | simpa using c3 | (simp at c3 ⊢; omega)
    obtain rfl := Option.some.inj H
    go_enter Try.func55, Try.ntmps55
    go_wp2
    go_ret
    exact ⟨by first | rfl | (simp; done) | (simp [*]; done), by repeat (first | exact Drawn0.refl _ | apply Drawn0.step)⟩

/-! ### impl_ArrayEquals: function 42 -/
def impl_ArrayEquals.f (k : Nat) (l0 : List ByteArray) (l1 : List ByteArray) : Option (Bool) := (util_ArrayEquals.f k l0 l1).bind fun t112 => (some t112)
theorem impl_ArrayEquals.mono : ∀ a0 a1 k, LeO (impl_ArrayEquals.f k a0 a1) (impl_ArrayEquals.f (k + 1) a0 a1) := by
  intro a0 a1 k
  unfold impl_ArrayEquals.f
  repeat' first
      | (with_reducible exact util_ArrayEquals.mono _ _ _)
      | (with_reducible exact LeO.refl _)
      | (with_reducible exact LeO.none _)
      | (with_reducible refine LeO.ite ?_ ?_)
      | (with_reducible refine LeO.bind ?_ (fun _ => ?_))
      | exact util_ArrayEquals.mono _ _ _
      | exact LeO.none _
      | refine LeO.ite ?_ ?_
      | refine LeO.bind ?_ (fun _ => ?_)
set_option maxHeartbeats 8000000 in
set_option maxRecDepth 100000 in
theorem impl_ArrayEquals.calls (k : Nat) (A0 : Option Addr) (c0 : Nat) (l0 : List ByteArray) (A1 : Option Addr) (c1 : Nat) (l1 : List ByteArray) (r : Bool) (w : World) (hr0 : Kd.C Kd.string w A0 l0.length l0) (hc0 : l0.length ≤ c0) (hr1 : Kd.C Kd.string w A1 l1.length l1) (hc1 : l1.length ≤ c1) (h : impl_ArrayEquals.f k l0 l1 = some r) :
    Calls Try.prog 42 #[.slice A0 l0.length c0, .slice A1 l1.length c1] w fun e w' => e = .returned (.bool r) ∧ Drawn0 w w' := by
  have HR0 := Aside0.mk hr0
  have HC0 := Aside0.mk hc0
  clear hr0 hc0
  have HR1 := Aside0.mk hr1
  have HC1 := Aside0.mk hc1
  clear hr1 hc1
  have H : ((util_ArrayEquals.f k l0 l1).bind fun t112 => (some t112)) = some r := h
  clear h
  replace H := Option.bind_eq_some_iff.mp H
  obtain ⟨t112, A30, H⟩ := H
  replace H : (some t112) = some r := H
  have A3 := Aside0.mk A30
  clear A30
  obtain rfl := Option.some.inj H
  go_enter Try.func42, Try.ntmps42
  go_wp2_with (first | ((with_reducible refine gate_callee (f := 55) rfl ?_); refine goesL_ (some 7) rfl rfl Try.func55 (by kernel_rfl) rfl #[.slice A0 l0.length c0, .slice A1 l1.length c1] rfl (by (try simp only [List.map_toArray, List.map_cons, List.map_nil]); first | done | rfl | (simp only [List.length_drop, List.length_take]; rfl)) ?_; (with_reducible refine (util_ArrayEquals.calls k _ _ l0 _ _ l1 t112 _ ?side1 ?side2 ?side3 ?side4 A3.out).mono ?_); (case side1 => repeat (first | exact HR0.out | (with_reducible refine Kd.C_alloc ?_ _) | (with_reducible refine Kd.C_drewN ?_ _) | (with_reducible refine Kd.C_drew ?_))); (case side2 => exact HC0.out); (case side3 => repeat (first | exact HR1.out | (with_reducible refine Kd.C_alloc ?_ _) | (with_reducible refine Kd.C_drewN ?_ _) | (with_reducible refine Kd.C_drew ?_))); (case side4 => exact HC1.out); rintro e w' ⟨rfl, ⟨nd, rfl⟩⟩; refine ⟨_, rfl, ?_⟩))
  go_ret
  exact ⟨by first | rfl | (simp; done) | (simp [*]; done), by repeat (first | exact Drawn0.refl _ | apply Drawn0.step)⟩

/-! ### laws_awakeUtil: function 23 -/
def laws_awakeUtil.f (k : Nat)  : Option (Bool) := (impl_KeyMatch.f k (⟨#[47, 102, 111, 111, 47, 98, 97, 114]⟩ : ByteArray) (⟨#[47, 102, 111, 111, 47, 42]⟩ : ByteArray)).bind fun t113 => (if t113 = true then ((impl_KeyGet.f k (⟨#[47, 102, 111, 111, 47, 98, 97, 114]⟩ : ByteArray) (⟨#[47, 102, 111, 111, 47, 42]⟩ : ByteArray)).bind fun t114 => (if t114.toList = ([98, 97, 114] : List UInt8) then ((impl_ArrayEquals.f k (([(⟨#[97]⟩ : ByteArray)] : List ByteArray)) (([(⟨#[97]⟩ : ByteArray)] : List ByteArray))).bind fun t121 => (if t121 = true then ((impl_EscapeAssertion.f k (⟨#[114, 46, 115, 117, 98]⟩ : ByteArray)).bind fun t122 => (some (t122.toList == ([114, 95, 115, 117, 98] : List UInt8)))) else (some false))) else (some false))) else (some false))
theorem laws_awakeUtil.mono : ∀ k, LeO (laws_awakeUtil.f k ) (laws_awakeUtil.f (k + 1) ) := by
  intro  k
  unfold laws_awakeUtil.f
  repeat' first
      | (with_reducible exact impl_ArrayEquals.mono _ _ _)
      | (with_reducible exact impl_EscapeAssertion.mono _ _)
      | (with_reducible exact impl_KeyGet.mono _ _ _)
      | (with_reducible exact impl_KeyMatch.mono _ _ _)
      | (with_reducible exact LeO.refl _)
      | (with_reducible exact LeO.none _)
      | (with_reducible refine LeO.ite ?_ ?_)
      | (with_reducible refine LeO.bind ?_ (fun _ => ?_))
      | exact impl_ArrayEquals.mono _ _ _
      | exact impl_EscapeAssertion.mono _ _
      | exact impl_KeyGet.mono _ _ _
      | exact impl_KeyMatch.mono _ _ _
      | exact LeO.none _
      | refine LeO.ite ?_ ?_
      | refine LeO.bind ?_ (fun _ => ?_)
set_option maxHeartbeats 8000000 in
set_option maxRecDepth 100000 in
theorem laws_awakeUtil.calls (k : Nat)  (r : Bool) (w : World) (h : laws_awakeUtil.f k  = some r) :
    Calls Try.prog 23 #[] w fun e w' => e = .returned (.bool r) ∧ Below w.heap.size w w' := by
  have HB := Aside0.mk (Below.refl w.heap.size w)
  have H : ((impl_KeyMatch.f k (⟨#[47, 102, 111, 111, 47, 98, 97, 114]⟩ : ByteArray) (⟨#[47, 102, 111, 111, 47, 42]⟩ : ByteArray)).bind fun t113 => (if t113 = true then ((impl_KeyGet.f k (⟨#[47, 102, 111, 111, 47, 98, 97, 114]⟩ : ByteArray) (⟨#[47, 102, 111, 111, 47, 42]⟩ : ByteArray)).bind fun t114 => (if t114.toList = ([98, 97, 114] : List UInt8) then ((impl_ArrayEquals.f k (([(⟨#[97]⟩ : ByteArray)] : List ByteArray)) (([(⟨#[97]⟩ : ByteArray)] : List ByteArray))).bind fun t121 => (if t121 = true then ((impl_EscapeAssertion.f k (⟨#[114, 46, 115, 117, 98]⟩ : ByteArray)).bind fun t122 => (some (t122.toList == ([114, 95, 115, 117, 98] : List UInt8)))) else (some false))) else (some false))) else (some false))) = some r := h
  clear h
  replace H := Option.bind_eq_some_iff.mp H
  obtain ⟨t113, A10, H⟩ := H
  replace H : (if t113 = true then ((impl_KeyGet.f k (⟨#[47, 102, 111, 111, 47, 98, 97, 114]⟩ : ByteArray) (⟨#[47, 102, 111, 111, 47, 42]⟩ : ByteArray)).bind fun t114 => (if t114.toList = ([98, 97, 114] : List UInt8) then ((impl_ArrayEquals.f k (([(⟨#[97]⟩ : ByteArray)] : List ByteArray)) (([(⟨#[97]⟩ : ByteArray)] : List ByteArray))).bind fun t121 => (if t121 = true then ((impl_EscapeAssertion.f k (⟨#[114, 46, 115, 117, 98]⟩ : ByteArray)).bind fun t122 => (some (t122.toList == ([114, 95, 115, 117, 98] : List UInt8)))) else (some false))) else (some false))) else (some false)) = some r := H
  have A1 := Aside0.mk A10
  clear A10
  by_cases c2 : t113 = true
  · subst c2
    have H1 : ((impl_KeyGet.f k (⟨#[47, 102, 111, 111, 47, 98, 97, 114]⟩ : ByteArray) (⟨#[47, 102, 111, 111, 47, 42]⟩ : ByteArray)).bind fun t114 => (if t114.toList = ([98, 97, 114] : List UInt8) then ((impl_ArrayEquals.f k (([(⟨#[97]⟩ : ByteArray)] : List ByteArray)) (([(⟨#[97]⟩ : ByteArray)] : List ByteArray))).bind fun t121 => (if t121 = true then ((impl_EscapeAssertion.f k (⟨#[114, 46, 115, 117, 98]⟩ : ByteArray)).bind fun t122 => (some (t122.toList == ([114, 95, 115, 117, 98] : List UInt8)))) else (some false))) else (some false))) = some r := by rw [if_pos rfl] at H; exact H
    clear H
    have H := H1
    clear H1
    replace H := Option.bind_eq_some_iff.mp H
    obtain ⟨t114, A30, H⟩ := H
    replace H : (if t114.toList = ([98, 97, 114] : List UInt8) then ((impl_ArrayEquals.f k (([(⟨#[97]⟩ : ByteArray)] : List ByteArray)) (([(⟨#[97]⟩ : ByteArray)] : List ByteArray))).bind fun t121 => (if t121 = true then ((impl_EscapeAssertion.f k (⟨#[114, 46, 115, 117, 98]⟩ : ByteArray)).bind fun t122 => (some (t122.toList == ([114, 95, 115, 117, 98] : List UInt8)))) else (some false))) else (some false)) = some r := H
    have A3 := Aside0.mk A30
    clear A30
    by_cases c4 : t114.toList = ([98, 97, 114] : List UInt8)
    · rw [if_pos c4] at H
      have c4b0 : (t114.toList == ([98, 97, 114] : List UInt8)) = true := beq_iff_eq.mpr c4
      have c4b1 : (t114.toList != ([98, 97, 114] : List UInt8)) = false := bne_eq_false_iff_eq.mpr c4
      clear c4
      obtain ⟨y115, hy115⟩ : ∃ y_ : List ByteArray, y_ = (([(⟨#[97]⟩ : ByteArray)] : List ByteArray)) := ⟨_, rfl⟩
      replace H : ((impl_ArrayEquals.f k y115 (([(⟨#[97]⟩ : ByteArray)] : List ByteArray))).bind fun t121 => (if t121 = true then ((impl_EscapeAssertion.f k (⟨#[114, 46, 115, 117, 98]⟩ : ByteArray)).bind fun t122 => (some (t122.toList == ([114, 95, 115, 117, 98] : List UInt8)))) else (some false))) = some r := by first | (rw [hy115]; with_reducible exact H) | (have H2_ := (Option.bind_some _ _).symm.trans H; rw [hy115]; with_reducible exact H2_) | (have H2_ := (Option.bind_some _ _).symm.trans H; with_reducible exact H2_) | with_reducible exact H | (rw [hy115]; exact H) | exact H
      have Ny115 := Aside0.mk hy115
      clear hy115
      obtain ⟨y118, hy118⟩ : ∃ y_ : List ByteArray, y_ = (([(⟨#[97]⟩ : ByteArray)] : List ByteArray)) := ⟨_, rfl⟩
      replace H : ((impl_ArrayEquals.f k y115 y118).bind fun t121 => (if t121 = true then ((impl_EscapeAssertion.f k (⟨#[114, 46, 115, 117, 98]⟩ : ByteArray)).bind fun t122 => (some (t122.toList == ([114, 95, 115, 117, 98] : List UInt8)))) else (some false))) = some r := by first | (rw [hy118]; with_reducible exact H) | (have H2_ := (Option.bind_some _ _).symm.trans H; rw [hy118]; with_reducible exact H2_) | (have H2_ := (Option.bind_some _ _).symm.trans H; with_reducible exact H2_) | with_reducible exact H | (rw [hy118]; exact H) | exact H
      have Ny118 := Aside0.mk hy118
      clear hy118
      replace H := Option.bind_eq_some_iff.mp H
      obtain ⟨t121, A50, H⟩ := H
      replace H : (if t121 = true then ((impl_EscapeAssertion.f k (⟨#[114, 46, 115, 117, 98]⟩ : ByteArray)).bind fun t122 => (some (t122.toList == ([114, 95, 115, 117, 98] : List UInt8)))) else (some false)) = some r := H
      have A5 := Aside0.mk A50
      clear A50
      by_cases c6 : t121 = true
      · subst c6
        have H1 : ((impl_EscapeAssertion.f k (⟨#[114, 46, 115, 117, 98]⟩ : ByteArray)).bind fun t122 => (some (t122.toList == ([114, 95, 115, 117, 98] : List UInt8)))) = some r := by rw [if_pos rfl] at H; exact H
        clear H
        have H := H1
        clear H1
        replace H := Option.bind_eq_some_iff.mp H
        obtain ⟨t122, A70, H⟩ := H
        replace H : (some (t122.toList == ([114, 95, 115, 117, 98] : List UInt8))) = some r := H
        have A7 := Aside0.mk A70
        clear A70
        obtain rfl := Option.some.inj H
        go_enter Try.func23, Try.ntmps23
        go_wp2_with (first | ((with_reducible refine gate_callee (f := 26) rfl ?_); refine goesL_ (some 1) rfl rfl Try.func26 (by kernel_rfl) rfl #[.string (⟨#[47, 102, 111, 111, 47, 98, 97, 114]⟩ : ByteArray), .string (⟨#[47, 102, 111, 111, 47, 42]⟩ : ByteArray)] rfl (by (try simp only [List.map_toArray, List.map_cons, List.map_nil]); first | done | rfl | (simp only [List.length_drop, List.length_take]; rfl)) ?_; (with_reducible refine (impl_KeyMatch.calls k (⟨#[47, 102, 111, 111, 47, 98, 97, 114]⟩ : ByteArray) (⟨#[47, 102, 111, 111, 47, 42]⟩ : ByteArray) true _ A1.out).mono ?_); rintro e w' ⟨rfl, ⟨nd, rfl⟩⟩; refine ⟨_, rfl, ?_⟩) | (go_at_call 24; (with_reducible refine (impl_KeyGet.calls k (⟨#[47, 102, 111, 111, 47, 98, 97, 114]⟩ : ByteArray) (⟨#[47, 102, 111, 111, 47, 42]⟩ : ByteArray) t114 _ A3.out).mono ?_); rintro e w' ⟨rfl, ⟨nd, rfl⟩⟩) | ((with_reducible refine gate_dst (N := 7) rfl ?_); (try (refine gate_guard (by rfl) ?_; dsimp only)); refine Kd.R_lit Kd.string _ 9 ?hg (N := 7) ?hd (xs := ([(⟨#[97]⟩ : ByteArray)] : List ByteArray)) (inner := [.string (⟨#[97]⟩ : ByteArray)]) (ok := fun _ => True) (okp := fun _ => True) ?hr ?hp (fun _ hk => hk) trivial (Below.refl _ _) (Nat.le_refl _) (by simp) ?_; (case hd => rfl); (case hg => rfl); (case hr => first | (go_simp; done) | (go_simp; rfl)); (case hp => exact (Reps.one (show Kd.M Kd.string _ _ _ (⟨#[97]⟩ : ByteArray) [.string (⟨#[97]⟩ : ByteArray)] from rfl) (Reps.none _ _))); intro v116 w8 ho9 hb hg_ hnew_; clear hg_ hnew_; (first | rw [← Ny115.out] at ho9 | (simp only [Int.reduceToNat] at ho9; rw [← Ny115.out] at ho9)); have n0_ := Aside0.mk (Kd.R_lower ho9 (below_size (by repeat (first | (with_reducible first | exact HB.out | apply below_alloc | apply pw_below_drewN | apply below_drew1) | exact HB.out)))); have n1_ := Aside0.mk (below_step (by repeat (first | (with_reducible first | exact HB.out | apply below_alloc | apply pw_below_drewN | apply below_drew1) | exact HB.out)) hb); clear HB; have HO117 := n0_; have HB := n1_; clear n0_ n1_; clear hb ho9) | ((with_reducible refine gate_dst (N := 8) rfl ?_); (try (refine gate_guard (by rfl) ?_; dsimp only)); refine Kd.R_lit Kd.string _ 9 ?hg (N := 8) ?hd (xs := ([(⟨#[97]⟩ : ByteArray)] : List ByteArray)) (inner := [.string (⟨#[97]⟩ : ByteArray)]) (ok := fun _ => True) (okp := fun _ => True) ?hr ?hp (fun _ hk => hk) trivial (Below.refl _ _) (Nat.le_refl _) (by simp) ?_; (case hd => rfl); (case hg => rfl); (case hr => first | (go_simp; done) | (go_simp; rfl)); (case hp => exact (Reps.one (show Kd.M Kd.string _ _ _ (⟨#[97]⟩ : ByteArray) [.string (⟨#[97]⟩ : ByteArray)] from rfl) (Reps.none _ _))); intro v119 w10 ho11 hb hg_ hnew_; clear hg_ hnew_; (first | rw [← Ny118.out] at ho11 | (simp only [Int.reduceToNat] at ho11; rw [← Ny118.out] at ho11)); have n0_ := Aside0.mk (Kd.R_elder' (by (with_reducible repeat (first | apply Kd.R_alloc | apply Kd.R_drewN | apply Kd.R_drew)); exact HO117.out) (Kd.R_base ho11) hb); have n1_ := Aside0.mk (Kd.R_lower (Kd.R_new' ho11 (Kd.R_lt (by (with_reducible repeat (first | apply Kd.R_alloc | apply Kd.R_drewN | apply Kd.R_drew)); exact HO117.out))) (below_size (by repeat (first | (with_reducible first | exact HB.out | apply below_alloc | apply pw_below_drewN | apply below_drew1) | exact HB.out)))); have n2_ := Aside0.mk (below_step (by repeat (first | (with_reducible first | exact HB.out | apply below_alloc | apply pw_below_drewN | apply below_drew1) | exact HB.out)) hb); clear HO117; clear HB; have HO117 := n0_; have HO120 := n1_; have HB := n2_; clear n0_ n1_ n2_; clear hb ho11; obtain ⟨Ao12, co12, eo12⟩ := Kd.R_slice HO117.out; subst eo12; obtain ⟨Ao13, co13, eo13⟩ := Kd.R_slice HO120.out; subst eo13) | (go_at_call 42; (with_reducible refine (impl_ArrayEquals.calls k _ _ y115 _ _ y118 true _ ?side1 ?side2 ?side3 ?side4 A5.out).mono ?_); (case side1 => repeat (first | exact (Kd.R_reads' HO117.out).2.2 | (with_reducible refine Kd.C_alloc ?_ _) | (with_reducible refine Kd.C_drewN ?_ _) | (with_reducible refine Kd.C_drew ?_))); (case side2 => exact (Kd.R_reads' HO117.out).2.1); (case side3 => repeat (first | exact (Kd.R_reads' HO120.out).2.2 | (with_reducible refine Kd.C_alloc ?_ _) | (with_reducible refine Kd.C_drewN ?_ _) | (with_reducible refine Kd.C_drew ?_))); (case side4 => exact (Kd.R_reads' HO120.out).2.1); rintro e w' ⟨rfl, ⟨nd, rfl⟩⟩) | (go_at_call 21; (with_reducible refine (impl_EscapeAssertion.calls k (⟨#[114, 46, 115, 117, 98]⟩ : ByteArray) t122 _ A7.out).mono ?_); rintro e w' ⟨rfl, ⟨nd, rfl⟩⟩))
        go_ret
        exact ⟨by first | rfl | (simp [errW_none, errW_some] <;> rfl) | (simp [*, errW_none, errW_some] <;> rfl), by repeat (first | (with_reducible first | exact HB.out | apply below_alloc | apply pw_below_drewN | apply below_drew1) | exact HB.out)⟩
      · replace c6 := Bool.eq_false_iff.mpr c6
        subst c6
        have H1 : (some false) = some r := by rw [if_neg (show ¬ (false = true) by decide)] at H; exact H
        clear H
        have H := H1
        clear H1
        obtain rfl := Option.some.inj H
        go_enter Try.func23, Try.ntmps23
        go_wp2_with (first | ((with_reducible refine gate_callee (f := 26) rfl ?_); refine goesL_ (some 1) rfl rfl Try.func26 (by kernel_rfl) rfl #[.string (⟨#[47, 102, 111, 111, 47, 98, 97, 114]⟩ : ByteArray), .string (⟨#[47, 102, 111, 111, 47, 42]⟩ : ByteArray)] rfl (by (try simp only [List.map_toArray, List.map_cons, List.map_nil]); first | done | rfl | (simp only [List.length_drop, List.length_take]; rfl)) ?_; (with_reducible refine (impl_KeyMatch.calls k (⟨#[47, 102, 111, 111, 47, 98, 97, 114]⟩ : ByteArray) (⟨#[47, 102, 111, 111, 47, 42]⟩ : ByteArray) true _ A1.out).mono ?_); rintro e w' ⟨rfl, ⟨nd, rfl⟩⟩; refine ⟨_, rfl, ?_⟩) | (go_at_call 24; (with_reducible refine (impl_KeyGet.calls k (⟨#[47, 102, 111, 111, 47, 98, 97, 114]⟩ : ByteArray) (⟨#[47, 102, 111, 111, 47, 42]⟩ : ByteArray) t114 _ A3.out).mono ?_); rintro e w' ⟨rfl, ⟨nd, rfl⟩⟩) | ((with_reducible refine gate_dst (N := 7) rfl ?_); (try (refine gate_guard (by rfl) ?_; dsimp only)); refine Kd.R_lit Kd.string _ 9 ?hg (N := 7) ?hd (xs := ([(⟨#[97]⟩ : ByteArray)] : List ByteArray)) (inner := [.string (⟨#[97]⟩ : ByteArray)]) (ok := fun _ => True) (okp := fun _ => True) ?hr ?hp (fun _ hk => hk) trivial (Below.refl _ _) (Nat.le_refl _) (by simp) ?_; (case hd => rfl); (case hg => rfl); (case hr => first | (go_simp; done) | (go_simp; rfl)); (case hp => exact (Reps.one (show Kd.M Kd.string _ _ _ (⟨#[97]⟩ : ByteArray) [.string (⟨#[97]⟩ : ByteArray)] from rfl) (Reps.none _ _))); intro v116 w14 ho15 hb hg_ hnew_; clear hg_ hnew_; (first | rw [← Ny115.out] at ho15 | (simp only [Int.reduceToNat] at ho15; rw [← Ny115.out] at ho15)); have n0_ := Aside0.mk (Kd.R_lower ho15 (below_size (by repeat (first | (with_reducible first | exact HB.out | apply below_alloc | apply pw_below_drewN | apply below_drew1) | exact HB.out)))); have n1_ := Aside0.mk (below_step (by repeat (first | (with_reducible first | exact HB.out | apply below_alloc | apply pw_below_drewN | apply below_drew1) | exact HB.out)) hb); clear HB; have HO117 := n0_; have HB := n1_; clear n0_ n1_; clear hb ho15) | ((with_reducible refine gate_dst (N := 8) rfl ?_); (try (refine gate_guard (by rfl) ?_; dsimp only)); refine Kd.R_lit Kd.string _ 9 ?hg (N := 8) ?hd (xs := ([(⟨#[97]⟩ : ByteArray)] : List ByteArray)) (inner := [.string (⟨#[97]⟩ : ByteArray)]) (ok := fun _ => True) (okp := fun _ => True) ?hr ?hp (fun _ hk => hk) trivial (Below.refl _ _) (Nat.le_refl _) (by simp) ?_; (case hd => rfl); (case hg => rfl); (case hr => first | (go_simp; done) | (go_simp; rfl)); (case hp => exact (Reps.one (show Kd.M Kd.string _ _ _ (⟨#[97]⟩ : ByteArray) [.string (⟨#[97]⟩ : ByteArray)] from rfl) (Reps.none _ _))); intro v119 w16 ho17 hb hg_ hnew_; clear hg_ hnew_; (first | rw [← Ny118.out] at ho17 | (simp only [Int.reduceToNat] at ho17; rw [← Ny118.out] at ho17)); have n0_ := Aside0.mk (Kd.R_elder' (by (with_reducible repeat (first | apply Kd.R_alloc | apply Kd.R_drewN | apply Kd.R_drew)); exact HO117.out) (Kd.R_base ho17) hb); have n1_ := Aside0.mk (Kd.R_lower (Kd.R_new' ho17 (Kd.R_lt (by (with_reducible repeat (first | apply Kd.R_alloc | apply Kd.R_drewN | apply Kd.R_drew)); exact HO117.out))) (below_size (by repeat (first | (with_reducible first | exact HB.out | apply below_alloc | apply pw_below_drewN | apply below_drew1) | exact HB.out)))); have n2_ := Aside0.mk (below_step (by repeat (first | (with_reducible first | exact HB.out | apply below_alloc | apply pw_below_drewN | apply below_drew1) | exact HB.out)) hb); clear HO117; clear HB; have HO117 := n0_; have HO120 := n1_; have HB := n2_; clear n0_ n1_ n2_; clear hb ho17; obtain ⟨Ao18, co18, eo18⟩ := Kd.R_slice HO117.out; subst eo18; obtain ⟨Ao19, co19, eo19⟩ := Kd.R_slice HO120.out; subst eo19) | (go_at_call 42; (with_reducible refine (impl_ArrayEquals.calls k _ _ y115 _ _ y118 false _ ?side1 ?side2 ?side3 ?side4 A5.out).mono ?_); (case side1 => repeat (first | exact (Kd.R_reads' HO117.out).2.2 | (with_reducible refine Kd.C_alloc ?_ _) | (with_reducible refine Kd.C_drewN ?_ _) | (with_reducible refine Kd.C_drew ?_))); (case side2 => exact (Kd.R_reads' HO117.out).2.1); (case side3 => repeat (first | exact (Kd.R_reads' HO120.out).2.2 | (with_reducible refine Kd.C_alloc ?_ _) | (with_reducible refine Kd.C_drewN ?_ _) | (with_reducible refine Kd.C_drew ?_))); (case side4 => exact (Kd.R_reads' HO120.out).2.1); rintro e w' ⟨rfl, ⟨nd, rfl⟩⟩))
        go_ret
        exact ⟨by first | rfl | (simp [errW_none, errW_some] <;> rfl) | (simp [*, errW_none, errW_some] <;> rfl), by repeat (first | (with_reducible first | exact HB.out | apply below_alloc | apply pw_below_drewN | apply below_drew1) | exact HB.out)⟩
    · rw [if_neg c4] at H
      have c4b0 : (t114.toList == ([98, 97, 114] : List UInt8)) = false := beq_eq_false_iff_ne.mpr c4
      have c4b1 : (t114.toList != ([98, 97, 114] : List UInt8)) = true := bne_iff_ne.mpr c4
      obtain rfl := Option.some.inj H
      go_enter Try.func23, Try.ntmps23
      go_wp2_with (first | ((with_reducible refine gate_callee (f := 26) rfl ?_); refine goesL_ (some 1) rfl rfl Try.func26 (by kernel_rfl) rfl #[.string (⟨#[47, 102, 111, 111, 47, 98, 97, 114]⟩ : ByteArray), .string (⟨#[47, 102, 111, 111, 47, 42]⟩ : ByteArray)] rfl (by (try simp only [List.map_toArray, List.map_cons, List.map_nil]); first | done | rfl | (simp only [List.length_drop, List.length_take]; rfl)) ?_; (with_reducible refine (impl_KeyMatch.calls k (⟨#[47, 102, 111, 111, 47, 98, 97, 114]⟩ : ByteArray) (⟨#[47, 102, 111, 111, 47, 42]⟩ : ByteArray) true _ A1.out).mono ?_); rintro e w' ⟨rfl, ⟨nd, rfl⟩⟩; refine ⟨_, rfl, ?_⟩) | (go_at_call 24; (with_reducible refine (impl_KeyGet.calls k (⟨#[47, 102, 111, 111, 47, 98, 97, 114]⟩ : ByteArray) (⟨#[47, 102, 111, 111, 47, 42]⟩ : ByteArray) t114 _ A3.out).mono ?_); rintro e w' ⟨rfl, ⟨nd, rfl⟩⟩))
      go_ret
      exact ⟨by first | rfl | (simp [errW_none, errW_some] <;> rfl) | (simp [*, errW_none, errW_some] <;> rfl), by repeat (first | (with_reducible first | exact HB.out | apply below_alloc | apply pw_below_drewN | apply below_drew1) | exact HB.out)⟩
  · replace c2 := Bool.eq_false_iff.mpr c2
    subst c2
    have H1 : (some false) = some r := by rw [if_neg (show ¬ (false = true) by decide)] at H; exact H
    clear H
    have H := H1
    clear H1
    obtain rfl := Option.some.inj H
    go_enter Try.func23, Try.ntmps23
    go_wp2_with (first | ((with_reducible refine gate_callee (f := 26) rfl ?_); refine goesL_ (some 1) rfl rfl Try.func26 (by kernel_rfl) rfl #[.string (⟨#[47, 102, 111, 111, 47, 98, 97, 114]⟩ : ByteArray), .string (⟨#[47, 102, 111, 111, 47, 42]⟩ : ByteArray)] rfl (by (try simp only [List.map_toArray, List.map_cons, List.map_nil]); first | done | rfl | (simp only [List.length_drop, List.length_take]; rfl)) ?_; (with_reducible refine (impl_KeyMatch.calls k (⟨#[47, 102, 111, 111, 47, 98, 97, 114]⟩ : ByteArray) (⟨#[47, 102, 111, 111, 47, 42]⟩ : ByteArray) false _ A1.out).mono ?_); rintro e w' ⟨rfl, ⟨nd, rfl⟩⟩; refine ⟨_, rfl, ?_⟩))
    go_ret
    exact ⟨by first | rfl | (simp [errW_none, errW_some] <;> rfl) | (simp [*, errW_none, errW_some] <;> rfl), by repeat (first | (with_reducible first | exact HB.out | apply below_alloc | apply pw_below_drewN | apply below_drew1) | exact HB.out)⟩

/-! ### spec_starAt: function 44 -/
def spec_starAt.l0 : Nat → ByteArray → Int → Option (Int)
  | 0, _, _ => none
  | k + 1, x0, x3 => if x3 < (x0.size : Int) then (if 0 ≤ x3 then (if (bt x0 x3) = 42 then (some x3) else (spec_starAt.l0 k x0 (wrap64 (x3 + 1)))) else (none)) else (some (-1))
def spec_starAt.f (k : Nat) (a0 : ByteArray) : Option (Int) := spec_starAt.l0 k a0 0
theorem spec_starAt.mono_l : ∀ k, (∀ y0 y1, LeO (spec_starAt.l0 k y0 y1) (spec_starAt.l0 (k + 1) y0 y1))
  | 0 => fun _ _ r h => by simp [spec_starAt.l0] at h
  | k + 1 => by
    have ih0 := spec_starAt.mono_l k
    · intro y0 y1
      unfold spec_starAt.l0
      repeat' first
      | (with_reducible exact ih0 _ _)
      | (with_reducible exact LeO.refl _)
      | (with_reducible exact LeO.none _)
      | (with_reducible refine LeO.ite ?_ ?_)
      | (with_reducible refine LeO.bind ?_ (fun _ => ?_))
      | exact ih0 _ _
      | exact LeO.none _
      | refine LeO.ite ?_ ?_
      | refine LeO.bind ?_ (fun _ => ?_)
theorem spec_starAt.mono : ∀ a0 k, LeO (spec_starAt.f k a0) (spec_starAt.f (k + 1) a0) := by
  intro a0 k
  have ih0 := spec_starAt.mono_l k
  unfold spec_starAt.f
  repeat' first
      | (with_reducible exact ih0 _ _)
      | (with_reducible exact LeO.refl _)
      | (with_reducible exact LeO.none _)
      | (with_reducible refine LeO.ite ?_ ?_)
      | (with_reducible refine LeO.bind ?_ (fun _ => ?_))
      | exact ih0 _ _
      | exact LeO.none _
      | refine LeO.ite ?_ ?_
      | refine LeO.bind ?_ (fun _ => ?_)
set_option maxHeartbeats 8000000 in
set_option maxRecDepth 100000 in
theorem spec_starAt.calls (k : Nat) (a0 : ByteArray) (r : Int) (w : World) (h : spec_starAt.f k a0 = some r) :
    Calls Try.prog 44 #[.string a0] w fun e w' => e = .returned (.int .i64 r) ∧ Drawn0 w w' := by
  have H : (spec_starAt.l0 k a0 0) = some r := h
  clear h
  have H' := Aside0.mk H
  clear H
  go_enter Try.func44, Try.ntmps44
  go_wp2
  go_loopg [3] k (fun kq v3 w' => ∃ (x3_1 : Int), v3 = .int .i64 x3_1 ∧ Aside0 (spec_starAt.l0 kq a0 x3_1 = some r) ∧ Aside0 (kq ≤ k) ∧ Drawn0 w w')
  case atStart => exact ⟨(0), (by first | rfl | (simp; done) | (simp [*]; done)), H', ⟨Nat.le_refl _⟩, by repeat (first | exact Drawn0.refl _ | apply Drawn0.step)⟩
  case round =>
    clear H'
    obtain ⟨x3_1, rfl, HA, HK1, ⟨m1, rfl⟩⟩ := hrel
    cases gk with
    | zero => exact absurd HA.out (by simp [spec_starAt.l0])
    | succ k1 =>
      have H := HA.out
      clear HA
      simp only [spec_starAt.l0] at H
      by_cases c2 : x3_1 < (a0.size : Int)
      · rw [if_pos c2] at H
        have c2b0 : decide (x3_1 < (a0.size : Int)) = true := decide_eq_true c2
        clear c2
        by_cases c3 : 0 ≤ x3_1
        · rw [if_pos c3] at H
          have c3b0 : decide (0 ≤ x3_1) = true := decide_eq_true c3
          clear c3
          by_cases c5 : (bt a0 x3_1) = 42
          · rw [if_pos c5] at H
            have c5b0 : ((bt a0 x3_1) == 42) = true := beq_iff_eq.mpr c5
            have c5b1 : ((bt a0 x3_1) != 42) = false := bne_eq_false_iff_eq.mpr c5
            clear c5
            obtain rfl := Option.some.inj H
            have p4 : 0 ≤ (x3_1 : Int) := of_decide_eq_true (by first | (with_reducible assumption) | assumption)
            have q4 : x3_1 < (a0.size : Int) := of_decide_eq_true (by first | (with_reducible assumption) | assumption)
            have hx4 := bt_at a0 x3_1
            replace p4 := eq_true p4
            replace q4 := eq_true q4
            go_wp2
            go_ret
            exact ⟨by first | rfl | (simp; done) | (simp [*]; done), by repeat (first | exact Drawn0.refl _ | apply Drawn0.step)⟩
          · rw [if_neg c5] at H
            have c5b0 : ((bt a0 x3_1) == 42) = false := beq_eq_false_iff_ne.mpr c5
            have c5b1 : ((bt a0 x3_1) != 42) = true := bne_iff_ne.mpr c5
            have H' := Aside0.mk H
            clear H
            have p4 : 0 ≤ (x3_1 : Int) := of_decide_eq_true (by first | (with_reducible assumption) | assumption)
            have q4 : x3_1 < (a0.size : Int) := of_decide_eq_true (by first | (with_reducible assumption) | assumption)
            have hx4 := bt_at a0 x3_1
            replace p4 := eq_true p4
            replace q4 := eq_true q4
            go_wp2
            go_roundg k1
            case measure => have := HK1.out; omega
            case rel => exact ⟨(wrap64 (x3_1 + 1)), (by first | rfl | (simp; done) | (simp [*]; done)), H', ⟨by have := HK1.out; omega⟩, by repeat (first | exact Drawn0.refl _ | apply Drawn0.step)⟩
        · rw [if_neg c3] at H
          exact absurd H (by simp)
      · rw [if_neg c2] at H
        have c2b0 : decide (x3_1 < (a0.size : Int)) = false := decide_eq_false c2
        clear c2
        obtain rfl := Option.some.inj H
        go_wp2
        go_ret
        exact ⟨by first | rfl | (simp; done) | (simp [*]; done), by repeat (first | exact Drawn0.refl _ | apply Drawn0.step)⟩

/-! ### spec_begins: function 45 -/
def spec_begins.f (a0 : ByteArray) (a1 : ByteArray) : Option (Bool) := if (a0.size : Int) ≥ (a1.size : Int) then (if 0 ≤ (a1.size : Int) then (if (a1.size : Int) ≤ (a0.size : Int) then (some ((a0.extract 0 ((a1.size : Int) : Int).toNat).toList == a1.toList)) else (none)) else (none)) else (some false)
set_option maxHeartbeats 8000000 in
set_option maxRecDepth 100000 in
theorem spec_begins.calls (a0 : ByteArray) (a1 : ByteArray) (r : Bool) (w : World) (h : spec_begins.f a0 a1 = some r) :
    Calls Try.prog 45 #[.string a0, .string a1] w fun e w' => e = .returned (.bool r) ∧ Drawn0 w w' := by
  have H : (if (a0.size : Int) ≥ (a1.size : Int) then (if 0 ≤ (a1.size : Int) then (if (a1.size : Int) ≤ (a0.size : Int) then (some ((a0.extract 0 ((a1.size : Int) : Int).toNat).toList == a1.toList)) else (none)) else (none)) else (some false)) = some r := h
  clear h
  by_cases c3 : (a0.size : Int) ≥ (a1.size : Int)
  · rw [if_pos c3] at H
    have c3b0 : decide ((a1.size : Int) ≤ (a0.size : Int)) = true := decide_eq_true c3
    have c3b1 : decide (a1.size ≤ a0.size) = true := decide_eq_true (Int.ofNat_le.mp c3)
    clear c3
    by_cases c4 : 0 ≤ (a1.size : Int)
    · rw [if_pos c4] at H
      have c4b0 := eq_true c4
      have c4b1 : decide (0 ≤ (a1.size : Int)) = true := decide_eq_true c4
      clear c4
      by_cases c5 : (a1.size : Int) ≤ (a0.size : Int)
      · rw [if_pos c5] at H
        have c5b0 := eq_true c5
        have c5b1 : decide ((a1.size : Int) ≤ (a0.size : Int)) = true := decide_eq_true c5
        clear c5
        obtain rfl := Option.some.inj H
        go_enter Try.func45, Try.ntmps45
        go_wp2
        go_ret
        exact ⟨by first | rfl | (simp; done) | (simp [*]; done), by repeat (first | exact Drawn0.refl _ | apply Drawn0.step)⟩
      · rw [if_neg c5] at H
        exact absurd H (by simp)
    · rw [if_neg c4] at H
      exact absurd H (by simp)
  · rw [if_neg c3] at H
    have c3b0 : decide ((a1.size : Int) ≤ (a0.size : Int)) = false := decide_eq_false c3
    have c3b1 : decide (a1.size ≤ a0.size) = false := decide_eq_false (fun h => c3 (Int.ofNat_le.mpr h))
    clear c3
    obtain rfl := Option.some.inj H
    go_enter Try.func45, Try.ntmps45
    go_wp2
    go_ret
    exact ⟨by first | rfl | (simp; done) | (simp [*]; done), by repeat (first | exact Drawn0.refl _ | apply Drawn0.step)⟩

/-! ### spec_KeyMatch: function 27 -/
def spec_KeyMatch.f (k : Nat) (a0 : ByteArray) (a1 : ByteArray) : Option (Bool) := (spec_starAt.f k a1).bind fun t123 => (if t123 < 0 then (some (a0.toList == a1.toList)) else (if 0 ≤ t123 then (if t123 ≤ (a1.size : Int) then ((spec_begins.f a0 (a1.extract 0 (t123 : Int).toNat)).bind fun t124 => (some t124)) else (none)) else (none)))
theorem spec_KeyMatch.mono : ∀ a0 a1 k, LeO (spec_KeyMatch.f k a0 a1) (spec_KeyMatch.f (k + 1) a0 a1) := by
  intro a0 a1 k
  unfold spec_KeyMatch.f
  repeat' first
      | (with_reducible exact spec_starAt.mono _ _)
      | (with_reducible exact LeO.refl _)
      | (with_reducible exact LeO.none _)
      | (with_reducible refine LeO.ite ?_ ?_)
      | (with_reducible refine LeO.bind ?_ (fun _ => ?_))
      | exact spec_starAt.mono _ _
      | exact LeO.none _
      | refine LeO.ite ?_ ?_
      | refine LeO.bind ?_ (fun _ => ?_)
set_option maxHeartbeats 8000000 in
set_option maxRecDepth 100000 in
theorem spec_KeyMatch.calls (k : Nat) (a0 : ByteArray) (a1 : ByteArray) (r : Bool) (w : World) (h : spec_KeyMatch.f k a0 a1 = some r) :
    Calls Try.prog 27 #[.string a0, .string a1] w fun e w' => e = .returned (.bool r) ∧ Drawn0 w w' := by
  have H : ((spec_starAt.f k a1).bind fun t123 => (if t123 < 0 then (some (a0.toList == a1.toList)) else (if 0 ≤ t123 then (if t123 ≤ (a1.size : Int) then ((spec_begins.f a0 (a1.extract 0 (t123 : Int).toNat)).bind fun t124 => (some t124)) else (none)) else (none)))) = some r := h
  clear h
  replace H := Option.bind_eq_some_iff.mp H
  obtain ⟨t123, A30, H⟩ := H
  replace H : (if t123 < 0 then (some (a0.toList == a1.toList)) else (if 0 ≤ t123 then (if t123 ≤ (a1.size : Int) then ((spec_begins.f a0 (a1.extract 0 (t123 : Int).toNat)).bind fun t124 => (some t124)) else (none)) else (none))) = some r := H
  have A3 := Aside0.mk A30
  clear A30
  by_cases c4 : t123 < 0
  · rw [if_pos c4] at H
    have c4b0 : decide (t123 < 0) = true := decide_eq_true c4
    clear c4
    obtain rfl := Option.some.inj H
    go_enter Try.func27, Try.ntmps27
    go_wp2_with (first | ((with_reducible refine gate_callee (f := 44) rfl ?_); refine goesL_ (some 7) rfl rfl Try.func44 (by kernel_rfl) rfl #[.string a1] rfl (by (try simp only [List.map_toArray, List.map_cons, List.map_nil]); first | done | rfl | (simp only [List.length_drop, List.length_take]; rfl)) ?_; (with_reducible refine (spec_starAt.calls k a1 t123 _ A3.out).mono ?_); rintro e w' ⟨rfl, ⟨nd, rfl⟩⟩; refine ⟨_, rfl, ?_⟩))
    go_ret
    exact ⟨by first | rfl | (simp; done) | (simp [*]; done), by repeat (first | exact Drawn0.refl _ | apply Drawn0.step)⟩
  · rw [if_neg c4] at H
    have c4b0 : decide (t123 < 0) = false := decide_eq_false c4
    clear c4
    by_cases c5 : 0 ≤ t123
    · rw [if_pos c5] at H
      have c5b0 := eq_true c5
      have c5b1 : decide (0 ≤ t123) = true := decide_eq_true c5
      clear c5
      by_cases c6 : t123 ≤ (a1.size : Int)
      · rw [if_pos c6] at H
        have c6b0 := eq_true c6
        have c6b1 : decide (t123 ≤ (a1.size : Int)) = true := decide_eq_true c6
        clear c6
        replace H := Option.bind_eq_some_iff.mp H
        obtain ⟨t124, A70, H⟩ := H
        replace H : (some t124) = some r := H
        have A7 := Aside0.mk A70
        clear A70
        obtain rfl := Option.some.inj H
        go_enter Try.func27, Try.ntmps27
        go_wp2_with (first | ((with_reducible refine gate_callee (f := 44) rfl ?_); refine goesL_ (some 7) rfl rfl Try.func44 (by kernel_rfl) rfl #[.string a1] rfl (by (try simp only [List.map_toArray, List.map_cons, List.map_nil]); first | done | rfl | (simp only [List.length_drop, List.length_take]; rfl)) ?_; (with_reducible refine (spec_starAt.calls k a1 t123 _ A3.out).mono ?_); rintro e w' ⟨rfl, ⟨nd, rfl⟩⟩; refine ⟨_, rfl, ?_⟩) | ((with_reducible refine gate_callee (f := 45) rfl ?_); refine goesL_ (some 17) rfl rfl Try.func45 (by kernel_rfl) rfl #[.string a0, .string (a1.extract 0 (t123 : Int).toNat)] rfl (by (try simp only [List.map_toArray, List.map_cons, List.map_nil]); first | done | rfl | (simp only [List.length_drop, List.length_take]; rfl)) ?_; (with_reducible refine (spec_begins.calls a0 (a1.extract 0 (t123 : Int).toNat) t124 _ A7.out).mono ?_); rintro e w' ⟨rfl, ⟨nd, rfl⟩⟩; refine ⟨_, rfl, ?_⟩))
        go_ret
        exact ⟨by first | rfl | (simp; done) | (simp [*]; done), by repeat (first | exact Drawn0.refl _ | apply Drawn0.step)⟩
      · rw [if_neg c6] at H
        exact absurd H (by simp)
    · rw [if_neg c5] at H
      exact absurd H (by simp)

/-! ### laws_FnKeyMatch: function 8 -/
def laws_FnKeyMatch.j0 : Nat → ByteArray → ByteArray → Bool → Option (Bool)
  | 0, _, _, _ => none
  | k + 1, x0, x1, x12 => if x12 = true then (some true) else (if (x0.size : Int) > 300 then (some true) else (if (x1.size : Int) > 300 then (some true) else ((impl_KeyMatch.f k x0 x1).bind fun t125 => ((spec_KeyMatch.f k x0 x1).bind fun t126 => (if (t125 == t126) = true then ((laws_awakeUtil.f k).bind fun t127 => (some t127)) else (some false))))))
def laws_FnKeyMatch.f (k : Nat) (a0 : ByteArray) (a1 : ByteArray) : Option (Bool) := if (a0.size : Int) > 2147483647 then (laws_FnKeyMatch.j0 k a0 a1 true) else (laws_FnKeyMatch.j0 k a0 a1 (decide ((a1.size : Int) > 2147483647)))
theorem laws_FnKeyMatch.mono_l : ∀ k, (∀ y0 y1 y2, LeO (laws_FnKeyMatch.j0 k y0 y1 y2) (laws_FnKeyMatch.j0 (k + 1) y0 y1 y2))
  | 0 => fun _ _ _ r h => by simp [laws_FnKeyMatch.j0] at h
  | k + 1 => by
    have ih0 := laws_FnKeyMatch.mono_l k
    · intro y0 y1 y2
      unfold laws_FnKeyMatch.j0
      repeat' first
      | (with_reducible exact ih0 _ _ _)
      | (with_reducible exact impl_KeyMatch.mono _ _ _)
      | (with_reducible exact laws_awakeUtil.mono _)
      | (with_reducible exact spec_KeyMatch.mono _ _ _)
      | (with_reducible exact LeO.refl _)
      | (with_reducible exact LeO.none _)
      | (with_reducible refine LeO.ite ?_ ?_)
      | (with_reducible refine LeO.bind ?_ (fun _ => ?_))
      | exact ih0 _ _ _
      | exact impl_KeyMatch.mono _ _ _
      | exact laws_awakeUtil.mono _
      | exact spec_KeyMatch.mono _ _ _
      | exact LeO.none _
      | refine LeO.ite ?_ ?_
      | refine LeO.bind ?_ (fun _ => ?_)
theorem laws_FnKeyMatch.mono : ∀ a0 a1 k, LeO (laws_FnKeyMatch.f k a0 a1) (laws_FnKeyMatch.f (k + 1) a0 a1) := by
  intro a0 a1 k
  have ih0 := laws_FnKeyMatch.mono_l k
  unfold laws_FnKeyMatch.f
  repeat' first
      | (with_reducible exact ih0 _ _ _)
      | (with_reducible exact impl_KeyMatch.mono _ _ _)
      | (with_reducible exact laws_awakeUtil.mono _)
      | (with_reducible exact spec_KeyMatch.mono _ _ _)
      | (with_reducible exact LeO.refl _)
      | (with_reducible exact LeO.none _)
      | (with_reducible refine LeO.ite ?_ ?_)
      | (with_reducible refine LeO.bind ?_ (fun _ => ?_))
      | exact ih0 _ _ _
      | exact impl_KeyMatch.mono _ _ _
      | exact laws_awakeUtil.mono _
      | exact spec_KeyMatch.mono _ _ _
      | exact LeO.none _
      | refine LeO.ite ?_ ?_
      | refine LeO.bind ?_ (fun _ => ?_)
set_option maxHeartbeats 8000000 in
set_option maxRecDepth 100000 in
theorem laws_FnKeyMatch.calls (k : Nat) (a0 : ByteArray) (a1 : ByteArray) (r : Bool) (w : World) (h : laws_FnKeyMatch.f k a0 a1 = some r) :
    Calls Try.prog 8 #[.string a0, .string a1] w fun e w' => e = .returned (.bool r) ∧ Below w.heap.size w w' := by
  have HB := Aside0.mk (Below.refl w.heap.size w)
  have H : (if (a0.size : Int) > 2147483647 then (laws_FnKeyMatch.j0 k a0 a1 true) else (laws_FnKeyMatch.j0 k a0 a1 (decide ((a1.size : Int) > 2147483647)))) = some r := h
  clear h
  have HC3 := Aside0.mk H
  clear H
  go_enter Try.func8, Try.ntmps8
  go_upto_region 1 with (fail)
  go_cut [12] (fun v12 wc => ∃ (kq : Nat) (x12_2 : Bool), v12 = .bool x12_2 ∧ Aside0 (laws_FnKeyMatch.j0 kq a0 a1 x12_2 = some r) ∧ Aside0 (kq ≤ k) ∧ Aside0 (Below w.heap.size w wc))
  case first =>
    have H := HC3.out
    clear HC3
    by_cases c4 : (a0.size : Int) > 2147483647
    · rw [if_pos c4] at H
      have c4b0 : decide (2147483647 < (a0.size : Int)) = true := decide_eq_true c4
      have c4b1 : decide (2147483647 < a0.size) = true := decide_eq_true (by omega)
      clear c4
      (first | rw [c4b0] | (simp only [i64_w, i32_w]; rw [c4b0]) | skip)
      have H' := Aside0.mk H
      clear H
      go_wp2
      go_meet
      case rel => exact ⟨_, (true), (by first | rfl | (simp; done) | (simp [*]; done)), H', ⟨by first | omega | exact Nat.le_refl _⟩, ⟨by repeat (first | (with_reducible first | exact HB.out | apply below_alloc | apply pw_below_drewN | apply below_drew1) | exact HB.out)⟩⟩
    · rw [if_neg c4] at H
      have c4b0 : decide (2147483647 < (a0.size : Int)) = false := decide_eq_false c4
      have c4b1 : decide (2147483647 < a0.size) = false := decide_eq_false (by omega)
      clear c4
      (first | rw [c4b0] | (simp only [i64_w, i32_w]; rw [c4b0]) | skip)
      have H' := Aside0.mk H
      clear H
      go_wp2
      go_meet
      case rel => exact ⟨_, (decide ((a1.size : Int) > 2147483647)), (by first | rfl | (simp; done) | (simp [*]; done)), H', ⟨by first | omega | exact Nat.le_refl _⟩, ⟨by repeat (first | (with_reducible first | exact HB.out | apply below_alloc | apply pw_below_drewN | apply below_drew1) | exact HB.out)⟩⟩
  case rest =>
    clear HC3
    try clear p2
    try clear c4
    try clear c4b0
    try clear c4b1
    obtain ⟨kq, x12_2, rfl, HA, HJ2, HB⟩ := hcut
    cases kq with
    | zero => exact absurd HA.out (by simp [laws_FnKeyMatch.j0])
    | succ kj2 =>
      have H := HA.out
      clear HA
      simp only [laws_FnKeyMatch.j0] at H
      by_cases c5 : x12_2 = true
      · subst c5
        have H1 : (some true) = some r := by rw [if_pos rfl] at H; exact H
        clear H
        have H := H1
        clear H1
        obtain rfl := Option.some.inj H
        go_wp2
        go_ret
        exact ⟨by first | rfl | (simp [errW_none, errW_some] <;> rfl) | (simp [*, errW_none, errW_some] <;> rfl), by repeat (first | (with_reducible first | exact HB.out | apply below_alloc | apply pw_below_drewN | apply below_drew1) | exact HB.out)⟩
      · replace c5 := Bool.eq_false_iff.mpr c5
        subst c5
        have H1 : (if (a0.size : Int) > 300 then (some true) else (if (a1.size : Int) > 300 then (some true) else ((impl_KeyMatch.f kj2 a0 a1).bind fun t125 => ((spec_KeyMatch.f kj2 a0 a1).bind fun t126 => (if (t125 == t126) = true then ((laws_awakeUtil.f kj2).bind fun t127 => (some t127)) else (some false)))))) = some r := by rw [if_neg (show ¬ (false = true) by decide)] at H; exact H
        clear H
        have H := H1
        clear H1
        by_cases c6 : (a0.size : Int) > 300
        · rw [if_pos c6] at H
          have c6b0 : decide (300 < (a0.size : Int)) = true := decide_eq_true c6
          have c6b1 : decide (300 < a0.size) = true := decide_eq_true (by omega)
          clear c6
          obtain rfl := Option.some.inj H
          go_wp2
          go_ret
          exact ⟨by first | rfl | (simp [errW_none, errW_some] <;> rfl) | (simp [*, errW_none, errW_some] <;> rfl), by repeat (first | (with_reducible first | exact HB.out | apply below_alloc | apply pw_below_drewN | apply below_drew1) | exact HB.out)⟩
        · rw [if_neg c6] at H
          have c6b0 : decide (300 < (a0.size : Int)) = false := decide_eq_false c6
          have c6b1 : decide (300 < a0.size) = false := decide_eq_false (by omega)
          clear c6
          by_cases c7 : (a1.size : Int) > 300
          · rw [if_pos c7] at H
            have c7b0 : decide (300 < (a1.size : Int)) = true := decide_eq_true c7
            have c7b1 : decide (300 < a1.size) = true := decide_eq_true (by omega)
            clear c7
            obtain rfl := Option.some.inj H
            go_wp2
            go_ret
            exact ⟨by first | rfl | (simp [errW_none, errW_some] <;> rfl) | (simp [*, errW_none, errW_some] <;> rfl), by repeat (first | (with_reducible first | exact HB.out | apply below_alloc | apply pw_below_drewN | apply below_drew1) | exact HB.out)⟩
          · rw [if_neg c7] at H
            have c7b0 : decide (300 < (a1.size : Int)) = false := decide_eq_false c7
            have c7b1 : decide (300 < a1.size) = false := decide_eq_false (by omega)
            clear c7
            replace H := Option.bind_eq_some_iff.mp H
            obtain ⟨t125, A80, H⟩ := H
            replace H : ((spec_KeyMatch.f kj2 a0 a1).bind fun t126 => (if (t125 == t126) = true then ((laws_awakeUtil.f kj2).bind fun t127 => (some t127)) else (some false))) = some r := H
            have A8 := Aside0.mk A80
            clear A80
            replace H := Option.bind_eq_some_iff.mp H
            obtain ⟨t126, A90, H⟩ := H
            replace H : (if (t125 == t126) = true then ((laws_awakeUtil.f kj2).bind fun t127 => (some t127)) else (some false)) = some r := H
            have A9 := Aside0.mk A90
            clear A90
            by_cases c10 : (t125 == t126) = true
            · rw [if_pos c10] at H
              have c10b0 : (t125 == t126) = true := c10
              (try (have c10b1 : decide (t125 = t126) = true := by simpa using c10))
              (try (have c10b2 : (t125 == t126) = true := by simpa using c10))
              clear c10
              replace H := Option.bind_eq_some_iff.mp H
              obtain ⟨t127, A110, H⟩ := H
              replace H : (some t127) = some r := H
              have A11 := Aside0.mk A110
              clear A110
              obtain rfl := Option.some.inj H
              go_wp2_with (first | (go_at_call 26; (with_reducible refine (impl_KeyMatch.calls kj2 a0 a1 t125 _ A8.out).mono ?_); rintro e w' ⟨rfl, ⟨nd, rfl⟩⟩) | (go_at_call 27; (with_reducible refine (spec_KeyMatch.calls kj2 a0 a1 t126 _ A9.out).mono ?_); rintro e w' ⟨rfl, ⟨nd, rfl⟩⟩) | (go_at_call 23; (with_reducible refine (laws_awakeUtil.calls kj2  t127 _ A11.out).mono ?_); rintro e w12 ⟨rfl, hb⟩; have n0_ := Aside0.mk (below_step (by repeat (first | (with_reducible first | exact HB.out | apply below_alloc | apply pw_below_drewN | apply below_drew1) | exact HB.out)) hb); clear HB; have HB := n0_; clear n0_; (try clear hb); (try clear hb2); (try clear hk); (try clear hi)))
              go_ret
              exact ⟨by first | rfl | (simp [errW_none, errW_some] <;> rfl) | (simp [*, errW_none, errW_some] <;> rfl), by repeat (first | (with_reducible first | exact HB.out | apply below_alloc | apply pw_below_drewN | apply below_drew1) | exact HB.out)⟩
            · rw [if_neg c10] at H
              have c10b0 : (t125 == t126) = false := by simpa using c10
              (try (have c10b1 : decide (t125 = t126) = false := by simpa using c10))
              (try (have c10b2 : (t125 == t126) = false := by simpa using c10))
              (try (have c10b3 : ¬ (t125 = t126) := by simpa using c10))
              clear c10
              obtain rfl := Option.some.inj H
              go_wp2_with (first | (go_at_call 26; (with_reducible refine (impl_KeyMatch.calls kj2 a0 a1 t125 _ A8.out).mono ?_); rintro e w' ⟨rfl, ⟨nd, rfl⟩⟩) | (go_at_call 27; (with_reducible refine (spec_KeyMatch.calls kj2 a0 a1 t126 _ A9.out).mono ?_); rintro e w' ⟨rfl, ⟨nd, rfl⟩⟩))
              go_ret
              exact ⟨by first | rfl | (simp [errW_none, errW_some] <;> rfl) | (simp [*, errW_none, errW_some] <;> rfl), by repeat (first | (with_reducible first | exact HB.out | apply below_alloc | apply pw_below_drewN | apply below_drew1) | exact HB.out)⟩

/-- THE ONE PURE STATEMENT of laws_FnKeyMatch: yours. -/
def laws_FnKeyMatch.Pure : Prop := ∀ (a0 : ByteArray) (a1 : ByteArray), a0.size ≤ 140737488351232 → a1.size ≤ 140737488351232 → ∃ k, laws_FnKeyMatch.f k a0 a1 = some true
theorem laws_FnKeyMatch.walk (P : laws_FnKeyMatch.Pure) (a0 : ByteArray) (a1 : ByteArray) (w : World) (w0 : a0.size ≤ 140737488351232) (w1 : a1.size ≤ 140737488351232) :
    Calls Try.prog 8 #[.string a0, .string a1] w fun e w' => e = .returned (.bool true) ∧ Below w.heap.size w w' := by
  obtain ⟨k, h⟩ := P a0 a1 w0 w1
  refine (laws_FnKeyMatch.calls k a0 a1 true w h).mono ?_
  rintro e w' ⟨rfl, hd⟩
  exact ⟨rfl, hd⟩

end Go.Proofs.Ytdhmlcnlklcofaa.PFnKeyMatch
