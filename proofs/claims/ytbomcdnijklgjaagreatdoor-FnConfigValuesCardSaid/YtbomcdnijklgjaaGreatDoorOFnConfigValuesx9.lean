/- The machine side of laws.FnConfigValues: each function of this text answers what its Lean function answers (written for this claim by a program of this session over the kit's print; no condition beyond what each theorem says). -/
import Derived.Test.YtbomcdnijklgjaaGreatDoorOFnConfigValuesx0
import Derived.Test.YtbomcdnijklgjaaGreatDoorOFnConfigValuesx5
namespace Go.Proofs.YtbomcdnijklgjaaGreatDoor.PFnConfigValues
open Go.RowKit Go.Proofs.YtbomcdnijklgjaaGreatDoorW.PrintWords Go.Proofs.YtbomcdnijklgjaaGreatDoorW.PrintLast Go.Proofs.YtbomcdnijklgjaaGreatDoorW.PrintMore
attribute [local go_sem] max2_int min2_int max_two min_two max_three min_three max_four min_four   -- for this text's walks alone
set_option linter.unusedVariables false
set_option linter.unusedSimpArgs false

/-! ### spec_TruthOf: function 19 -/
def spec_TruthOf.j0 : Nat → ByteArray → Bool → Option (Bool × Bool)
  | 0, _, _ => none
  | k + 1, x4, x5 => if x5 = true then (some (true, true)) else (if x4.toList = ([48] : List UInt8) then (some (false, true)) else (if x4.toList = ([102] : List UInt8) then (some (false, true)) else (if x4.toList = ([70] : List UInt8) then (some (false, true)) else (if x4.toList = ([102, 97, 108, 115, 101] : List UInt8) then (some (false, true)) else (if x4.toList = ([70, 65, 76, 83, 69] : List UInt8) then (some (false, true)) else (if x4.toList = ([70, 97, 108, 115, 101] : List UInt8) then (some (false, true)) else (some (false, false))))))))
def spec_TruthOf.f (k : Nat) (a0 : ByteArray) : Option (Bool × Bool) := if a0.toList = ([49] : List UInt8) then (spec_TruthOf.j0 k a0 (a0.toList == ([49] : List UInt8))) else (if a0.toList = ([116] : List UInt8) then (spec_TruthOf.j0 k a0 (a0.toList == ([116] : List UInt8))) else (if a0.toList = ([84] : List UInt8) then (spec_TruthOf.j0 k a0 (a0.toList == ([84] : List UInt8))) else (if a0.toList = ([116, 114, 117, 101] : List UInt8) then (spec_TruthOf.j0 k a0 (a0.toList == ([116, 114, 117, 101] : List UInt8))) else (if a0.toList = ([84, 82, 85, 69] : List UInt8) then (spec_TruthOf.j0 k a0 (a0.toList == ([84, 82, 85, 69] : List UInt8))) else (spec_TruthOf.j0 k a0 (a0.toList == ([84, 114, 117, 101] : List UInt8)))))))
theorem spec_TruthOf.mono_l : ∀ k, (∀ y0 y1, LeO (spec_TruthOf.j0 k y0 y1) (spec_TruthOf.j0 (k + 1) y0 y1))
  | 0 => fun _ _ r h => by simp [spec_TruthOf.j0] at h
  | k + 1 => by
    have ih0 := spec_TruthOf.mono_l k
    · intro y0 y1
      unfold spec_TruthOf.j0
      repeat' first
      | (with_reducible exact ih0 _ _)
      | (with_reducible exact LeO.refl _)
      | (with_reducible exact LeO.none _)
      | (with_reducible refine LeO.ite ?_ ?_)
      | (with_reducible refine LeO.bind ?_ (fun _ => ?_))
      | exact ih0 _ _
      | exact LeO.none _
      | refine LeO.ite ?_ ?_
      | refine LeO.bind ?_ (fun _ => ?_)
theorem spec_TruthOf.mono : ∀ a0 k, LeO (spec_TruthOf.f k a0) (spec_TruthOf.f (k + 1) a0) := by
  intro a0 k
  have ih0 := spec_TruthOf.mono_l k
  unfold spec_TruthOf.f
  repeat' first
      | (with_reducible exact ih0 _ _)
      | (with_reducible exact LeO.refl _)
      | (with_reducible exact LeO.none _)
      | (with_reducible refine LeO.ite ?_ ?_)
      | (with_reducible refine LeO.bind ?_ (fun _ => ?_))
      | exact ih0 _ _
      | exact LeO.none _
      | refine LeO.ite ?_ ?_
      | refine LeO.bind ?_ (fun _ => ?_)
set_option maxHeartbeats 8000000 in
set_option maxRecDepth 100000 in
theorem spec_TruthOf.calls (k : Nat) (a0 : ByteArray) (r1 : Bool) (r2 : Bool) (w : World) (h : spec_TruthOf.f k a0 = some (r1, r2)) :
    Calls Tryz.prog 19 #[.string a0] w fun e w' => e = .returned (.tuple #[.bool r1, .bool r2]) ∧ Drawn0 w w' := by
  have H : (if a0.toList = ([49] : List UInt8) then (spec_TruthOf.j0 k a0 (a0.toList == ([49] : List UInt8))) else (if a0.toList = ([116] : List UInt8) then (spec_TruthOf.j0 k a0 (a0.toList == ([116] : List UInt8))) else (if a0.toList = ([84] : List UInt8) then (spec_TruthOf.j0 k a0 (a0.toList == ([84] : List UInt8))) else (if a0.toList = ([116, 114, 117, 101] : List UInt8) then (spec_TruthOf.j0 k a0 (a0.toList == ([116, 114, 117, 101] : List UInt8))) else (if a0.toList = ([84, 82, 85, 69] : List UInt8) then (spec_TruthOf.j0 k a0 (a0.toList == ([84, 82, 85, 69] : List UInt8))) else (spec_TruthOf.j0 k a0 (a0.toList == ([84, 114, 117, 101] : List UInt8)))))))) = some (r1, r2) := h
  clear h
  have HC2 := Aside0.mk H
  clear H
  go_enter Tryz.func19, Tryz.ntmps19
  go_upto_if 5 with (fail)
  go_cut [5] (fun v5 wc => ∃ (kq : Nat) (x5_1 : Bool), v5 = .bool x5_1 ∧ Aside0 (spec_TruthOf.j0 kq a0 x5_1 = some (r1, r2)) ∧ Aside0 (kq ≤ k) ∧ Drawn0 w wc)
  case first =>
    have H := HC2.out
    clear HC2
    by_cases c3 : a0.toList = ([49] : List UInt8)
    · rw [if_pos c3] at H
      have c3b0 : (a0.toList == ([49] : List UInt8)) = true := beq_iff_eq.mpr c3
      have c3b1 : (a0.toList != ([49] : List UInt8)) = false := bne_eq_false_iff_eq.mpr c3
      clear c3
      (first | rw [c3b0] | (simp only [i64_w, i32_w]; rw [c3b0]) | skip)
      try rw [c3b9]
      try simp only [Bool.not_true, Bool.not_false]
      have H' := Aside0.mk H
      clear H
      go_wp2
      go_meet
      case rel => exact ⟨_, ((a0.toList == ([49] : List UInt8))), (by first | rfl | (simp; done) | (simp [*]; done)), H', ⟨by first | omega | exact Nat.le_refl _⟩, by repeat (first | exact Drawn0.refl _ | apply Drawn0.step)⟩
    · rw [if_neg c3] at H
      have c3b0 : (a0.toList == ([49] : List UInt8)) = false := beq_eq_false_iff_ne.mpr c3
      have c3b1 : (a0.toList != ([49] : List UInt8)) = true := bne_iff_ne.mpr c3
      (first | rw [c3b0] | (simp only [i64_w, i32_w]; rw [c3b0]) | skip)
      try rw [c3b9]
      try simp only [Bool.not_true, Bool.not_false]
      by_cases c4 : a0.toList = ([116] : List UInt8)
      · rw [if_pos c4] at H
        have c4b0 : (a0.toList == ([116] : List UInt8)) = true := beq_iff_eq.mpr c4
        have c4b1 : (a0.toList != ([116] : List UInt8)) = false := bne_eq_false_iff_eq.mpr c4
        clear c4
        have H' := Aside0.mk H
        clear H
        go_wp2
        go_meet
        case rel => exact ⟨_, ((a0.toList == ([116] : List UInt8))), (by first | rfl | (simp; done) | (simp [*]; done)), H', ⟨by first | omega | exact Nat.le_refl _⟩, by repeat (first | exact Drawn0.refl _ | apply Drawn0.step)⟩
      · rw [if_neg c4] at H
        have c4b0 : (a0.toList == ([116] : List UInt8)) = false := beq_eq_false_iff_ne.mpr c4
        have c4b1 : (a0.toList != ([116] : List UInt8)) = true := bne_iff_ne.mpr c4
        by_cases c5 : a0.toList = ([84] : List UInt8)
        · rw [if_pos c5] at H
          have c5b0 : (a0.toList == ([84] : List UInt8)) = true := beq_iff_eq.mpr c5
          have c5b1 : (a0.toList != ([84] : List UInt8)) = false := bne_eq_false_iff_eq.mpr c5
          clear c5
          have H' := Aside0.mk H
          clear H
          go_wp2
          go_meet
          case rel => exact ⟨_, ((a0.toList == ([84] : List UInt8))), (by first | rfl | (simp; done) | (simp [*]; done)), H', ⟨by first | omega | exact Nat.le_refl _⟩, by repeat (first | exact Drawn0.refl _ | apply Drawn0.step)⟩
        · rw [if_neg c5] at H
          have c5b0 : (a0.toList == ([84] : List UInt8)) = false := beq_eq_false_iff_ne.mpr c5
          have c5b1 : (a0.toList != ([84] : List UInt8)) = true := bne_iff_ne.mpr c5
          by_cases c6 : a0.toList = ([116, 114, 117, 101] : List UInt8)
          · rw [if_pos c6] at H
            have c6b0 : (a0.toList == ([116, 114, 117, 101] : List UInt8)) = true := beq_iff_eq.mpr c6
            have c6b1 : (a0.toList != ([116, 114, 117, 101] : List UInt8)) = false := bne_eq_false_iff_eq.mpr c6
            clear c6
            have H' := Aside0.mk H
            clear H
            go_wp2
            go_meet
            case rel => exact ⟨_, ((a0.toList == ([116, 114, 117, 101] : List UInt8))), (by first | rfl | (simp; done) | (simp [*]; done)), H', ⟨by first | omega | exact Nat.le_refl _⟩, by repeat (first | exact Drawn0.refl _ | apply Drawn0.step)⟩
          · rw [if_neg c6] at H
            have c6b0 : (a0.toList == ([116, 114, 117, 101] : List UInt8)) = false := beq_eq_false_iff_ne.mpr c6
            have c6b1 : (a0.toList != ([116, 114, 117, 101] : List UInt8)) = true := bne_iff_ne.mpr c6
            by_cases c7 : a0.toList = ([84, 82, 85, 69] : List UInt8)
            · rw [if_pos c7] at H
              have c7b0 : (a0.toList == ([84, 82, 85, 69] : List UInt8)) = true := beq_iff_eq.mpr c7
              have c7b1 : (a0.toList != ([84, 82, 85, 69] : List UInt8)) = false := bne_eq_false_iff_eq.mpr c7
              clear c7
              have H' := Aside0.mk H
              clear H
              go_wp2
              go_meet
              case rel => exact ⟨_, ((a0.toList == ([84, 82, 85, 69] : List UInt8))), (by first | rfl | (simp; done) | (simp [*]; done)), H', ⟨by first | omega | exact Nat.le_refl _⟩, by repeat (first | exact Drawn0.refl _ | apply Drawn0.step)⟩
            · rw [if_neg c7] at H
              have c7b0 : (a0.toList == ([84, 82, 85, 69] : List UInt8)) = false := beq_eq_false_iff_ne.mpr c7
              have c7b1 : (a0.toList != ([84, 82, 85, 69] : List UInt8)) = true := bne_iff_ne.mpr c7
              have H' := Aside0.mk H
              clear H
              go_wp2
              go_meet
              case rel => exact ⟨_, ((a0.toList == ([84, 114, 117, 101] : List UInt8))), (by first | rfl | (simp; done) | (simp [*]; done)), H', ⟨by first | omega | exact Nat.le_refl _⟩, by repeat (first | exact Drawn0.refl _ | apply Drawn0.step)⟩
  case rest =>
    clear HC2
    try clear c1
    try clear p2
    try clear c3
    try clear c3b0
    try clear c3b1
    try clear c4
    try clear c4b0
    try clear c4b1
    try clear c5
    try clear c5b0
    try clear c5b1
    try clear c6
    try clear c6b0
    try clear c6b1
    try clear c7
    try clear c7b0
    try clear c7b1
    obtain ⟨kq, x5_1, rfl, HA, HJ1, ⟨mc1, rfl⟩⟩ := hcut
    cases kq with
    | zero => exact absurd HA.out (by simp [spec_TruthOf.j0])
    | succ kj1 =>
      have H := HA.out
      clear HA
      simp only [spec_TruthOf.j0] at H
      by_cases c8 : x5_1 = true
      · subst c8
        have H1 : (some (true, true)) = some (r1, r2) := by rw [if_pos rfl] at H; exact H
        clear H
        have H := H1
        clear H1
        simp only [Option.some.injEq, Prod.mk.injEq] at H
        obtain ⟨rfl, rfl⟩ := H
        go_wp2
        go_ret2
        exact ⟨by first | rfl | (simp; done) | (simp [*]; done), by repeat (first | exact Drawn0.refl _ | apply Drawn0.step)⟩
      · replace c8 := Bool.eq_false_iff.mpr c8
        subst c8
        have H1 : (if a0.toList = ([48] : List UInt8) then (some (false, true)) else (if a0.toList = ([102] : List UInt8) then (some (false, true)) else (if a0.toList = ([70] : List UInt8) then (some (false, true)) else (if a0.toList = ([102, 97, 108, 115, 101] : List UInt8) then (some (false, true)) else (if a0.toList = ([70, 65, 76, 83, 69] : List UInt8) then (some (false, true)) else (if a0.toList = ([70, 97, 108, 115, 101] : List UInt8) then (some (false, true)) else (some (false, false)))))))) = some (r1, r2) := by rw [if_neg (show ¬ (false = true) by decide)] at H; exact H
        clear H
        have H := H1
        clear H1
        by_cases c9 : a0.toList = ([48] : List UInt8)
        · rw [if_pos c9] at H
          have c9b0 : (a0.toList == ([48] : List UInt8)) = true := beq_iff_eq.mpr c9
          have c9b1 : (a0.toList != ([48] : List UInt8)) = false := bne_eq_false_iff_eq.mpr c9
          clear c9
          simp only [Option.some.injEq, Prod.mk.injEq] at H
          obtain ⟨rfl, rfl⟩ := H
          go_wp2
          go_ret2
          exact ⟨by first | rfl | (simp; done) | (simp [*]; done), by repeat (first | exact Drawn0.refl _ | apply Drawn0.step)⟩
        · rw [if_neg c9] at H
          have c9b0 : (a0.toList == ([48] : List UInt8)) = false := beq_eq_false_iff_ne.mpr c9
          have c9b1 : (a0.toList != ([48] : List UInt8)) = true := bne_iff_ne.mpr c9
          by_cases c10 : a0.toList = ([102] : List UInt8)
          · rw [if_pos c10] at H
            have c10b0 : (a0.toList == ([102] : List UInt8)) = true := beq_iff_eq.mpr c10
            have c10b1 : (a0.toList != ([102] : List UInt8)) = false := bne_eq_false_iff_eq.mpr c10
            clear c10
            simp only [Option.some.injEq, Prod.mk.injEq] at H
            obtain ⟨rfl, rfl⟩ := H
            go_wp2
            go_ret2
            exact ⟨by first | rfl | (simp; done) | (simp [*]; done), by repeat (first | exact Drawn0.refl _ | apply Drawn0.step)⟩
          · rw [if_neg c10] at H
            have c10b0 : (a0.toList == ([102] : List UInt8)) = false := beq_eq_false_iff_ne.mpr c10
            have c10b1 : (a0.toList != ([102] : List UInt8)) = true := bne_iff_ne.mpr c10
            by_cases c11 : a0.toList = ([70] : List UInt8)
            · rw [if_pos c11] at H
              have c11b0 : (a0.toList == ([70] : List UInt8)) = true := beq_iff_eq.mpr c11
              have c11b1 : (a0.toList != ([70] : List UInt8)) = false := bne_eq_false_iff_eq.mpr c11
              clear c11
              simp only [Option.some.injEq, Prod.mk.injEq] at H
              obtain ⟨rfl, rfl⟩ := H
              go_wp2
              go_ret2
              exact ⟨by first | rfl | (simp; done) | (simp [*]; done), by repeat (first | exact Drawn0.refl _ | apply Drawn0.step)⟩
            · rw [if_neg c11] at H
              have c11b0 : (a0.toList == ([70] : List UInt8)) = false := beq_eq_false_iff_ne.mpr c11
              have c11b1 : (a0.toList != ([70] : List UInt8)) = true := bne_iff_ne.mpr c11
              by_cases c12 : a0.toList = ([102, 97, 108, 115, 101] : List UInt8)
              · rw [if_pos c12] at H
                have c12b0 : (a0.toList == ([102, 97, 108, 115, 101] : List UInt8)) = true := beq_iff_eq.mpr c12
                have c12b1 : (a0.toList != ([102, 97, 108, 115, 101] : List UInt8)) = false := bne_eq_false_iff_eq.mpr c12
                clear c12
                simp only [Option.some.injEq, Prod.mk.injEq] at H
                obtain ⟨rfl, rfl⟩ := H
                go_wp2
                go_ret2
                exact ⟨by first | rfl | (simp; done) | (simp [*]; done), by repeat (first | exact Drawn0.refl _ | apply Drawn0.step)⟩
              · rw [if_neg c12] at H
                have c12b0 : (a0.toList == ([102, 97, 108, 115, 101] : List UInt8)) = false := beq_eq_false_iff_ne.mpr c12
                have c12b1 : (a0.toList != ([102, 97, 108, 115, 101] : List UInt8)) = true := bne_iff_ne.mpr c12
                by_cases c13 : a0.toList = ([70, 65, 76, 83, 69] : List UInt8)
                · rw [if_pos c13] at H
                  have c13b0 : (a0.toList == ([70, 65, 76, 83, 69] : List UInt8)) = true := beq_iff_eq.mpr c13
                  have c13b1 : (a0.toList != ([70, 65, 76, 83, 69] : List UInt8)) = false := bne_eq_false_iff_eq.mpr c13
                  clear c13
                  simp only [Option.some.injEq, Prod.mk.injEq] at H
                  obtain ⟨rfl, rfl⟩ := H
                  go_wp2
                  go_ret2
                  exact ⟨by first | rfl | (simp; done) | (simp [*]; done), by repeat (first | exact Drawn0.refl _ | apply Drawn0.step)⟩
                · rw [if_neg c13] at H
                  have c13b0 : (a0.toList == ([70, 65, 76, 83, 69] : List UInt8)) = false := beq_eq_false_iff_ne.mpr c13
                  have c13b1 : (a0.toList != ([70, 65, 76, 83, 69] : List UInt8)) = true := bne_iff_ne.mpr c13
                  by_cases c14 : a0.toList = ([70, 97, 108, 115, 101] : List UInt8)
                  · rw [if_pos c14] at H
                    have c14b0 : (a0.toList == ([70, 97, 108, 115, 101] : List UInt8)) = true := beq_iff_eq.mpr c14
                    have c14b1 : (a0.toList != ([70, 97, 108, 115, 101] : List UInt8)) = false := bne_eq_false_iff_eq.mpr c14
                    clear c14
                    simp only [Option.some.injEq, Prod.mk.injEq] at H
                    obtain ⟨rfl, rfl⟩ := H
                    go_wp2
                    go_ret2
                    exact ⟨by first | rfl | (simp; done) | (simp [*]; done), by repeat (first | exact Drawn0.refl _ | apply Drawn0.step)⟩
                  · rw [if_neg c14] at H
                    have c14b0 : (a0.toList == ([70, 97, 108, 115, 101] : List UInt8)) = false := beq_eq_false_iff_ne.mpr c14
                    have c14b1 : (a0.toList != ([70, 97, 108, 115, 101] : List UInt8)) = true := bne_iff_ne.mpr c14
                    simp only [Option.some.injEq, Prod.mk.injEq] at H
                    obtain ⟨rfl, rfl⟩ := H
                    go_wp2
                    go_ret2
                    exact ⟨by first | rfl | (simp; done) | (simp [*]; done), by repeat (first | exact Drawn0.refl _ | apply Drawn0.step)⟩

/-! ### impl_ConfigBool: function 20 -/
/-! A value as a truth, as a whole number, as a list. -/
section
open Go.Proofs
def TL : List (List UInt8) := [[49], [116], [84], [116, 114, 117, 101], [84, 82, 85, 69], [84, 114, 117, 101]]
def FL : List (List UInt8) := [[48], [102], [70], [102, 97, 108, 115, 101], [70, 65, 76, 83, 69], [70, 97, 108, 115, 101]]
def boolP (s : ByteArray) : Bool × Int := if s.toList ∈ TL then (true, 0) else if s.toList ∈ FL then (false, 0) else (false, 1)
/-- an error by its kind: 0 none, 1 one -/
def ErrK (k : Int) (v : Value) : Prop := (k = 0 ∧ v = .nilIface) ∨ (k = 1 ∧ ∃ t x, v = .iface t x)
set_option maxHeartbeats 4000000 in
set_option maxRecDepth 100000 in
theorem sc_fail (a b c : ByteArray) (w : World) :
    Calls Tryz.prog 99 #[.string a, .string b, .string c] w fun e w' => ∃ x, e = .returned (.iface 171 x) ∧ Below w.heap.size w w' := by
  go_enter Tryz.func99, Tryz.ntmps99
  go_wp2
  go_ret
  exact ⟨_, rfl, (Below.refl _ _).alloc (Nat.le_refl _) _⟩
set_option maxHeartbeats 8000000 in
set_option maxRecDepth 100000 in
theorem parse_bool (s : ByteArray) (w : World) :
    Calls Tryz.prog 95 #[.string s] w fun e w' => ∃ err, e = .returned (.tuple #[.bool (boolP s).1, err]) ∧ ErrK (boolP s).2 err ∧ Below w.heap.size w w' := by
  by_cases hT : s.toList ∈ TL
  · have e : boolP s = (true, 0) := by unfold boolP; rw [if_pos hT]
    rw [e]
    clear e
    simp only [TL, List.mem_cons, List.mem_nil_iff, or_false] at hT
    rcases hT with h | h | h | h | h | h
    all_goals
      go_enter Tryz.func95, Tryz.ntmps95
      go_wp2
      go_ret2
      exact ⟨_, rfl, .inl ⟨rfl, rfl⟩, Below.refl _ _⟩
  · by_cases hF : s.toList ∈ FL
    · have e : boolP s = (false, 0) := by unfold boolP; rw [if_neg hT, if_pos hF]
      rw [e]
      clear e hT
      simp only [FL, List.mem_cons, List.mem_nil_iff, or_false] at hF
      rcases hF with h | h | h | h | h | h
      all_goals
        go_enter Tryz.func95, Tryz.ntmps95
        go_wp2
        go_ret2
        exact ⟨_, rfl, .inl ⟨rfl, rfl⟩, Below.refl _ _⟩
    · have e : boolP s = (false, 1) := by unfold boolP; rw [if_neg hT, if_neg hF]
      rw [e]
      clear e
      simp only [TL, FL, List.mem_cons, List.mem_nil_iff, or_false, not_or] at hT hF
      obtain ⟨h0, h1, h2, h3, h4, h5⟩ := hT
      obtain ⟨h6, h7, h8, h9, h10, h11⟩ := hF
      replace h0 := beq_eq_false_iff_ne.2 h0
      replace h1 := beq_eq_false_iff_ne.2 h1
      replace h2 := beq_eq_false_iff_ne.2 h2
      replace h3 := beq_eq_false_iff_ne.2 h3
      replace h4 := beq_eq_false_iff_ne.2 h4
      replace h5 := beq_eq_false_iff_ne.2 h5
      replace h6 := beq_eq_false_iff_ne.2 h6
      replace h7 := beq_eq_false_iff_ne.2 h7
      replace h8 := beq_eq_false_iff_ne.2 h8
      replace h9 := beq_eq_false_iff_ne.2 h9
      replace h10 := beq_eq_false_iff_ne.2 h10
      replace h11 := beq_eq_false_iff_ne.2 h11
      go_enter Tryz.func95, Tryz.ntmps95
      go_wp2_with (go_at_call 99; refine (sc_fail _ _ _ _).mono ?_; rintro e w2 ⟨x, rfl, hb⟩; have HB := Aside0.mk hb; clear hb)
      go_ret2
      exact ⟨_, rfl, .inr ⟨rfl, _, _, rfl⟩, HB.out⟩
end
section
open Go.Proofs
set_option maxHeartbeats 4000000 in
set_option maxRecDepth 100000 in
theorem one_of (k : Int) (v : Value) (h : ErrK k v) (w : World) :
    Calls Tryz.prog 28 #[v] w fun e w' => e = .returned (.int .i64 k) ∧ w' = w := by
  rcases h with ⟨rfl, rfl⟩ | ⟨rfl, t, x, rfl⟩
  · have hb : ∀ w : World, (binOp .neq 57 .nilIface .nilIface).run Tryz.prog w = .ok (.bool false) w := fun w => by kernel_rfl
    go_enter Tryz.func28, Tryz.ntmps28
    go_wp2
    go_ret
    exact ⟨rfl, rfl⟩
  · have hb : ∀ w : World, (binOp .neq 57 (.iface t x) .nilIface).run Tryz.prog w = .ok (.bool true) w := fun w => by kernel_rfl
    go_enter Tryz.func28, Tryz.ntmps28
    go_wp2
    go_ret
    exact ⟨rfl, rfl⟩
set_option maxHeartbeats 4000000 in
set_option maxRecDepth 100000 in
theorem conf_Bool {w : World} {p m : Nat} {st : Secs} (h : ConfIs w p m st) (key : ByteArray) (hk : lowKey key = true) :
    Calls Tryz.prog 88 #[.pointer (some ⟨p, 0, none⟩), .string key] w fun e w' => ∃ err, e = .returned (.tuple #[.bool (boolP (getConf (confOf st) key)).1, err]) ∧ ErrK (boolP (getConf (confOf st) key)).2 err ∧ Below w.heap.size w w' := by
  have hg := conf_get h key hk
  clear h hk
  go_enter Tryz.func88, Tryz.ntmps88
  go_wp2_with (first
    | (go_at_call 96; refine hg.mono ?_; rintro e w2 ⟨rfl, hb⟩; have HB2 := Aside0.mk hb; clear hb)
    | (go_at_call 95; refine (parse_bool _ _).mono ?_; rintro e w3 ⟨err, rfl, he, hb⟩; have HB3 := Aside0.mk hb; have HE := Aside0.mk he; clear hb he))
  go_ret2
  exact ⟨_, rfl, HE.out, HB2.out.trans (HB3.out.mono HB2.out.size)⟩
def impl_ConfigBool.f (text key : ByteArray) : Option (Bool × Int) := if goodText text && lowKey key then (parseP text.data.toList).map fun D => boolP (getConf D key) else none
set_option maxHeartbeats 4000000 in
set_option maxRecDepth 100000 in
theorem config_bool {pe pb : Addr} {W : World} (hG : GlobsIn pe pb W) (a0 a1 : ByteArray) (r0 : Bool) (r1 : Int) (h : impl_ConfigBool.f a0 a1 = some (r0, r1)) :
    Calls Tryz.prog 20 #[.string a0, .string a1] W fun e w' => e = .returned (.tuple #[.bool r0, .int .i64 r1]) ∧ Below W.heap.size W w' := by
  unfold impl_ConfigBool.f at h
  by_cases hc : (goodText a0 && lowKey a1) = true
  · rw [if_pos hc] at h
    rw [Bool.and_eq_true] at hc
    obtain ⟨D, hD, hr⟩ := Option.map_eq_some_iff.1 h
    have hn := Aside0.mk (new_config hG a0 D hc.1 hD)
    have HK := Aside0.mk hc.2
    have HR := Aside0.mk hr
    have hnn : ∀ w : World, (binOp .neq 57 .nilIface .nilIface).run Tryz.prog w = .ok (.bool false) w := fun w => by kernel_rfl
    clear h hc hr hD hG
    go_enter Tryz.func20, Tryz.ntmps20
    go_wp2_with (first
      | (go_at_call 25; refine hn.out.mono ?_; rintro e w2 ⟨p, m, st, rfl, hC, hD, hle, hb⟩; have H2 := Aside0.mk (And.intro hC (And.intro hD (And.intro hle hb))); clear hC hD hle hb)
      | (go_at_call 88; refine (conf_Bool H2.out.1 a1 HK.out).mono ?_; rintro e w3 ⟨err, rfl, he, hb⟩; have HB3 := Aside0.mk hb; have HE := Aside0.mk he; clear hb he)
      | (go_at_call 28; refine (one_of _ _ HE.out _).mono ?_; rintro e w4 ⟨rfl, rfl⟩))
    go_ret2
    have h2 := H2.out
    have h3 := HR.out
    rw [← h2.2.1] at h3
    refine ⟨by rw [h3]; rfl, h2.2.2.2.trans (HB3.out.mono h2.2.2.2.size)⟩
  · rw [if_neg hc] at h; cases h
end
theorem impl_ConfigBool.calls (a0 a1 : ByteArray) (r0 : Bool) (r1 : Int) (w : World) (hprem : Prem w) (h : impl_ConfigBool.f a0 a1 = some (r0, r1)) :
    Calls Tryz.prog 20 #[.string a0, .string a1] w fun e w' => e = .returned (.tuple #[.bool r0, .int .i64 r1]) ∧ Below w.heap.size w w' := by
  obtain ⟨pe, pb, hg⟩ := hprem
  exact config_bool hg a0 a1 r0 r1 h

/-! ### spec_IntOf: function 21 -/
mutual
def spec_IntOf.j0 : Nat → ByteArray → Int → Int → Bool → Option (Int × Bool)
  | 0, _, _, _, _ => none
  | k + 1, x0, x4, x5, x18 => if x18 = true then (spec_IntOf.j1 k x0 x4 1) else (spec_IntOf.j1 k x0 x4 x5)
def spec_IntOf.j1 : Nat → ByteArray → Int → Int → Option (Int × Bool)
  | 0, _, _, _ => none
  | k + 1, x0, x4, x5 => spec_IntOf.l0 k x0 x4 x5 x5
def spec_IntOf.l0 : Nat → ByteArray → Int → Int → Int → Option (Int × Bool)
  | 0, _, _, _, _ => none
  | k + 1, x0, x4, x5, x6 => if x6 < (x0.size : Int) then (if 0 ≤ x6 then (if (bt x0 x6) < 48 then (some (0, false)) else (if (bt x0 x6) > 57 then (some (0, false)) else (if (wrap64 ((x0.size : Int) - x5)) > 18 then (some (0, false)) else (spec_IntOf.l0 k x0 (wrap64 ((wrap64 (10 * x4)) + (((bt x0 x6) - 48) % 256))) x5 (wrap64 (x6 + 1)))))) else (none)) else (if (x0.size : Int) = x5 then (some (0, false)) else (if 0 < (x0.size : Int) then (if (bt x0 0) = 45 then (some (wrap64 (-x4), true)) else (some (x4, true))) else (none)))
end
def spec_IntOf.f (k : Nat) (a0 : ByteArray) : Option (Int × Bool) := if a0.toList = ([] : List UInt8) then (spec_IntOf.j0 k a0 0 0 false) else (if 0 < (a0.size : Int) then (if (bt a0 0) = 45 then (spec_IntOf.j0 k a0 0 0 true) else (spec_IntOf.j0 k a0 0 0 ((bt a0 0) == 43))) else (none))
theorem spec_IntOf.mono_l : ∀ k, (∀ y0 y1 y2 y3, LeO (spec_IntOf.j0 k y0 y1 y2 y3) (spec_IntOf.j0 (k + 1) y0 y1 y2 y3)) ∧ (∀ y0 y1 y2, LeO (spec_IntOf.j1 k y0 y1 y2) (spec_IntOf.j1 (k + 1) y0 y1 y2)) ∧ (∀ y0 y1 y2 y3, LeO (spec_IntOf.l0 k y0 y1 y2 y3) (spec_IntOf.l0 (k + 1) y0 y1 y2 y3))
  | 0 => ⟨fun _ _ _ _ r h => by simp [spec_IntOf.j0] at h, fun _ _ _ r h => by simp [spec_IntOf.j1] at h, fun _ _ _ _ r h => by simp [spec_IntOf.l0] at h⟩
  | k + 1 => by
    obtain ⟨ih0, ih1, ih2⟩ := spec_IntOf.mono_l k
    refine ⟨?_, ?_, ?_⟩
    · intro y0 y1 y2 y3
      unfold spec_IntOf.j0
      repeat' first
      | (with_reducible exact ih0 _ _ _ _)
      | (with_reducible exact ih1 _ _ _)
      | (with_reducible exact ih2 _ _ _ _)
      | (with_reducible exact LeO.refl _)
      | (with_reducible exact LeO.none _)
      | (with_reducible refine LeO.ite ?_ ?_)
      | (with_reducible refine LeO.bind ?_ (fun _ => ?_))
      | exact ih0 _ _ _ _
      | exact ih1 _ _ _
      | exact ih2 _ _ _ _
      | exact LeO.none _
      | refine LeO.ite ?_ ?_
      | refine LeO.bind ?_ (fun _ => ?_)
    · intro y0 y1 y2
      unfold spec_IntOf.j1
      repeat' first
      | (with_reducible exact ih0 _ _ _ _)
      | (with_reducible exact ih1 _ _ _)
      | (with_reducible exact ih2 _ _ _ _)
      | (with_reducible exact LeO.refl _)
      | (with_reducible exact LeO.none _)
      | (with_reducible refine LeO.ite ?_ ?_)
      | (with_reducible refine LeO.bind ?_ (fun _ => ?_))
      | exact ih0 _ _ _ _
      | exact ih1 _ _ _
      | exact ih2 _ _ _ _
      | exact LeO.none _
      | refine LeO.ite ?_ ?_
      | refine LeO.bind ?_ (fun _ => ?_)
    · intro y0 y1 y2 y3
      unfold spec_IntOf.l0
      repeat' first
      | (with_reducible exact ih0 _ _ _ _)
      | (with_reducible exact ih1 _ _ _)
      | (with_reducible exact ih2 _ _ _ _)
      | (with_reducible exact LeO.refl _)
      | (with_reducible exact LeO.none _)
      | (with_reducible refine LeO.ite ?_ ?_)
      | (with_reducible refine LeO.bind ?_ (fun _ => ?_))
      | exact ih0 _ _ _ _
      | exact ih1 _ _ _
      | exact ih2 _ _ _ _
      | exact LeO.none _
      | refine LeO.ite ?_ ?_
      | refine LeO.bind ?_ (fun _ => ?_)
theorem spec_IntOf.mono : ∀ a0 k, LeO (spec_IntOf.f k a0) (spec_IntOf.f (k + 1) a0) := by
  intro a0 k
  obtain ⟨ih0, ih1, ih2⟩ := spec_IntOf.mono_l k
  unfold spec_IntOf.f
  repeat' first
      | (with_reducible exact ih0 _ _ _ _)
      | (with_reducible exact ih1 _ _ _)
      | (with_reducible exact ih2 _ _ _ _)
      | (with_reducible exact LeO.refl _)
      | (with_reducible exact LeO.none _)
      | (with_reducible refine LeO.ite ?_ ?_)
      | (with_reducible refine LeO.bind ?_ (fun _ => ?_))
      | exact ih0 _ _ _ _
      | exact ih1 _ _ _
      | exact ih2 _ _ _ _
      | exact LeO.none _
      | refine LeO.ite ?_ ?_
      | refine LeO.bind ?_ (fun _ => ?_)
set_option maxHeartbeats 8000000 in
set_option maxRecDepth 100000 in
theorem spec_IntOf.calls (k : Nat) (a0 : ByteArray) (r1 : Int) (r2 : Bool) (w : World) (h : spec_IntOf.f k a0 = some (r1, r2)) :
    Calls Tryz.prog 21 #[.string a0] w fun e w' => e = .returned (.tuple #[.int .i64 r1, .bool r2]) ∧ Drawn0 w w' := by
  have H : (if a0.toList = ([] : List UInt8) then (spec_IntOf.j0 k a0 0 0 false) else (if 0 < (a0.size : Int) then (if (bt a0 0) = 45 then (spec_IntOf.j0 k a0 0 0 true) else (spec_IntOf.j0 k a0 0 0 ((bt a0 0) == 43))) else (none))) = some (r1, r2) := h
  clear h
  have HC2 := Aside0.mk H
  clear H
  go_enter Tryz.func21, Tryz.ntmps21
  go_upto_region 2 with (fail)
  go_cut [18] (fun v18 wc => ∃ (kq : Nat) (x18_1 : Bool), v18 = .bool x18_1 ∧ Aside0 (spec_IntOf.j0 kq a0 0 0 x18_1 = some (r1, r2)) ∧ Aside0 (kq ≤ k) ∧ Drawn0 w wc)
  case first =>
    have H := HC2.out
    clear HC2
    by_cases c3 : a0.toList = ([] : List UInt8)
    · rw [if_pos c3] at H
      have c3b0 : (a0.toList == ([] : List UInt8)) = true := beq_iff_eq.mpr c3
      have c3b9 : a0.toList.isEmpty = true := by rw [c3]; rfl
      have c3b1 : (a0.toList != ([] : List UInt8)) = false := bne_eq_false_iff_eq.mpr c3
      clear c3
      (first | rw [c3b0] | (simp only [i64_w, i32_w]; rw [c3b0]) | skip)
      try rw [c3b9]
      try simp only [Bool.not_true, Bool.not_false]
      have H' := Aside0.mk H
      clear H
      go_wp2
      go_meet
      case rel => exact ⟨_, (false), (by first | rfl | (simp; done) | (simp [*]; done)), H', ⟨by first | omega | exact Nat.le_refl _⟩, by repeat (first | exact Drawn0.refl _ | apply Drawn0.step)⟩
    · rw [if_neg c3] at H
      have c3b0 : (a0.toList == ([] : List UInt8)) = false := beq_eq_false_iff_ne.mpr c3
      have c3b9 : a0.toList.isEmpty = false := isEmpty_no_ c3
      have c3b1 : (a0.toList != ([] : List UInt8)) = true := bne_iff_ne.mpr c3
      (first | rw [c3b0] | (simp only [i64_w, i32_w]; rw [c3b0]) | skip)
      try rw [c3b9]
      try simp only [Bool.not_true, Bool.not_false]
      by_cases c4 : 0 < (a0.size : Int)
      · rw [if_pos c4] at H
        have c4b0 : decide (0 < (a0.size : Int)) = true := decide_eq_true c4
        have c4b1 : decide (0 < a0.size) = true := decide_eq_true (by omega)
        clear c4
        by_cases c6 : (bt a0 0) = 45
        · rw [if_pos c6] at H
          have c6b0 : ((bt a0 0) == 45) = true := beq_iff_eq.mpr c6
          have c6b1 : ((bt a0 0) != 45) = false := bne_eq_false_iff_eq.mpr c6
          clear c6
          have H' := Aside0.mk H
          clear H
          have p5 : 0 ≤ (0 : Int) := (by omega)
          have q5 : 0 < a0.size := (by have : (0 : Int) < (a0.size : Int) := of_decide_eq_true (by first | (with_reducible assumption) | assumption); omega)
          have hx5 : ∀ h : 0 < a0.size, ((a0[0]'h).toNat : Int) = bt a0 0 := bt_at a0 0
          clear p5
          have qi5 : (0 < (a0.size : Int)) = True := eq_true (of_decide_eq_true (by first | (with_reducible assumption) | assumption))
          replace q5 := eq_true q5
          go_wp2
          go_meet
          case rel => exact ⟨_, (true), (by first | rfl | (simp; done) | (simp [*]; done)), H', ⟨by first | omega | exact Nat.le_refl _⟩, by repeat (first | exact Drawn0.refl _ | apply Drawn0.step)⟩
        · rw [if_neg c6] at H
          have c6b0 : ((bt a0 0) == 45) = false := beq_eq_false_iff_ne.mpr c6
          have c6b1 : ((bt a0 0) != 45) = true := bne_iff_ne.mpr c6
          have H' := Aside0.mk H
          clear H
          have p5 : 0 ≤ (0 : Int) := (by omega)
          have q5 : 0 < a0.size := (by have : (0 : Int) < (a0.size : Int) := of_decide_eq_true (by first | (with_reducible assumption) | assumption); omega)
          have hx5 : ∀ h : 0 < a0.size, ((a0[0]'h).toNat : Int) = bt a0 0 := bt_at a0 0
          clear p5
          have qi5 : (0 < (a0.size : Int)) = True := eq_true (of_decide_eq_true (by first | (with_reducible assumption) | assumption))
          replace q5 := eq_true q5
          have p7 : 0 ≤ (0 : Int) := (by omega)
          have q7 : 0 < a0.size := (by have : (0 : Int) < (a0.size : Int) := of_decide_eq_true (by first | (with_reducible assumption) | assumption); omega)
          have hx7 : ∀ h : 0 < a0.size, ((a0[0]'h).toNat : Int) = bt a0 0 := bt_at a0 0
          clear p7
          have qi7 : (0 < (a0.size : Int)) = True := eq_true (of_decide_eq_true (by first | (with_reducible assumption) | assumption))
          replace q7 := eq_true q7
          go_wp2
          go_meet
          case rel => exact ⟨_, (((bt a0 0) == 43)), (by first | rfl | (simp; done) | (simp [*]; done)), H', ⟨by first | omega | exact Nat.le_refl _⟩, by repeat (first | exact Drawn0.refl _ | apply Drawn0.step)⟩
      · rw [if_neg c4] at H
        exact absurd H (by simp)
  case rest =>
    clear HC2
    try clear c2
    try clear p2
    try clear c3
    try clear c3b0
    try clear c3b1
    try clear c4
    try clear c4b0
    try clear c4b1
    try clear p5
    try clear q5
    try clear hx5
    try clear qi5
    try clear c6
    try clear c6b0
    try clear c6b1
    try clear p7
    try clear q7
    try clear hx7
    try clear qi7
    try clear p5
    try clear p7
    try clear q5
    try clear q7
    obtain ⟨kq, x18_1, rfl, HA, HJ1, ⟨mc1, rfl⟩⟩ := hcut
    cases kq with
    | zero => exact absurd HA.out (by simp [spec_IntOf.j0])
    | succ kj1 =>
      have H := HA.out
      clear HA
      simp only [spec_IntOf.j0] at H
      have HC8 := Aside0.mk H
      clear H
      go_upto_if 18 with (fail)
      go_cut [5] (fun v5 wc => ∃ (kq : Nat) (x5_7 : Int), v5 = .int .i64 x5_7 ∧ Aside0 (spec_IntOf.j1 kq a0 0 x5_7 = some (r1, r2)) ∧ Aside0 (kq ≤ kj1) ∧ Drawn0 w wc)
      case first =>
        have H := HC8.out
        clear HC8
        by_cases c9 : x18_1 = true
        · subst c9
          have H1 : (spec_IntOf.j1 kj1 a0 0 1) = some (r1, r2) := by rw [if_pos rfl] at H; exact H
          clear H
          have H := H1
          clear H1
          have H' := Aside0.mk H
          clear H
          go_wp2
          go_meet
          case rel => exact ⟨_, (1), (by first | rfl | (simp; done) | (simp [*]; done)), H', ⟨by have := HJ1.out; first | omega | exact Nat.le_refl _⟩, by repeat (first | exact Drawn0.refl _ | apply Drawn0.step)⟩
        · replace c9 := Bool.eq_false_iff.mpr c9
          subst c9
          have H1 : (spec_IntOf.j1 kj1 a0 0 0) = some (r1, r2) := by rw [if_neg (show ¬ (false = true) by decide)] at H; exact H
          clear H
          have H := H1
          clear H1
          have H' := Aside0.mk H
          clear H
          go_wp2
          go_meet
          case rel => exact ⟨_, (0), (by first | rfl | (simp; done) | (simp [*]; done)), H', ⟨by have := HJ1.out; first | omega | exact Nat.le_refl _⟩, by repeat (first | exact Drawn0.refl _ | apply Drawn0.step)⟩
      case rest =>
        clear HC8
        try clear c1
        try clear c2
        try clear p2
        try clear c3
        try clear c3b0
        try clear c3b1
        try clear c4
        try clear c4b0
        try clear c4b1
        try clear p5
        try clear q5
        try clear hx5
        try clear qi5
        try clear c6
        try clear c6b0
        try clear c6b1
        try clear p7
        try clear q7
        try clear hx7
        try clear qi7
        try clear c9
        try clear p2
        try clear p5
        try clear p7
        try clear q5
        try clear q7
        obtain ⟨kq, x5_7, rfl, HA, HJ7, ⟨mc7, rfl⟩⟩ := hcut
        cases kq with
        | zero => exact absurd HA.out (by simp [spec_IntOf.j1])
        | succ kj7 =>
          have H := HA.out
          clear HA
          simp only [spec_IntOf.j1] at H
          have H' := Aside0.mk H
          clear H
          go_wp2
          go_loopg [4, 6] kj7 (fun kq v4 v6 w' => ∃ (x4_3 : Int) (x6_3 : Int), v4 = .int .i64 x4_3 ∧ v6 = .int .i64 x6_3 ∧ Aside0 (spec_IntOf.l0 kq a0 x4_3 x5_7 x6_3 = some (r1, r2)) ∧ Aside0 (kq ≤ kj7) ∧ Drawn0 w w')
          case atStart => exact ⟨(0), (x5_7), (by first | rfl | (simp; done) | (simp [*]; done)), (by first | rfl | (simp; done) | (simp [*]; done)), H', ⟨Nat.le_refl _⟩, by repeat (first | exact Drawn0.refl _ | apply Drawn0.step)⟩
          case round =>
            clear H'
            try clear c1
            try clear c2
            try clear p2
            try clear c3
            try clear c3b0
            try clear c3b1
            try clear c4
            try clear c4b0
            try clear c4b1
            try clear p5
            try clear q5
            try clear hx5
            try clear qi5
            try clear c6
            try clear c6b0
            try clear c6b1
            try clear c7
            try clear p7
            try clear q7
            try clear hx7
            try clear qi7
            try clear c9
            try clear p2
            try clear p5
            try clear p7
            try clear q5
            try clear q7
            obtain ⟨x4_3, x6_3, rfl, rfl, HA, HK3, ⟨m3, rfl⟩⟩ := hrel
            cases gk with
            | zero => exact absurd HA.out (by simp [spec_IntOf.l0])
            | succ k3 =>
              have H := HA.out
              clear HA
              simp only [spec_IntOf.l0] at H
              by_cases c10 : x6_3 < (a0.size : Int)
              · rw [if_pos c10] at H
                have c10b0 : decide (x6_3 < (a0.size : Int)) = true := decide_eq_true c10
                clear c10
                by_cases c11 : 0 ≤ x6_3
                · rw [if_pos c11] at H
                  have c11b0 : decide (0 ≤ x6_3) = true := decide_eq_true c11
                  clear c11
                  by_cases c13 : (bt a0 x6_3) < 48
                  · rw [if_pos c13] at H
                    have c13b0 : decide ((bt a0 x6_3) < 48) = true := decide_eq_true c13
                    clear c13
                    simp only [Option.some.injEq, Prod.mk.injEq] at H
                    obtain ⟨rfl, rfl⟩ := H
                    have p12 : 0 ≤ (x6_3 : Int) := of_decide_eq_true (by first | (with_reducible assumption) | assumption)
                    have q12 : x6_3 < (a0.size : Int) := of_decide_eq_true (by first | (with_reducible assumption) | assumption)
                    have hx12 := bt_at a0 x6_3
                    replace p12 := eq_true p12
                    replace q12 := eq_true q12
                    go_wp2
                    go_ret2
                    exact ⟨by first | rfl | (simp; done) | (simp [*]; done), by repeat (first | exact Drawn0.refl _ | apply Drawn0.step)⟩
                  · rw [if_neg c13] at H
                    have c13b0 : decide ((bt a0 x6_3) < 48) = false := decide_eq_false c13
                    clear c13
                    by_cases c15 : (bt a0 x6_3) > 57
                    · rw [if_pos c15] at H
                      have c15b0 : decide (57 < (bt a0 x6_3)) = true := decide_eq_true c15
                      clear c15
                      simp only [Option.some.injEq, Prod.mk.injEq] at H
                      obtain ⟨rfl, rfl⟩ := H
                      have p12 : 0 ≤ (x6_3 : Int) := of_decide_eq_true (by first | (with_reducible assumption) | assumption)
                      have q12 : x6_3 < (a0.size : Int) := of_decide_eq_true (by first | (with_reducible assumption) | assumption)
                      have hx12 := bt_at a0 x6_3
                      replace p12 := eq_true p12
                      replace q12 := eq_true q12
                      have p14 : 0 ≤ (x6_3 : Int) := of_decide_eq_true (by first | (with_reducible assumption) | assumption)
                      have q14 : x6_3 < (a0.size : Int) := of_decide_eq_true (by first | (with_reducible assumption) | assumption)
                      have hx14 := bt_at a0 x6_3
                      replace p14 := eq_true p14
                      replace q14 := eq_true q14
                      go_wp2
                      go_ret2
                      exact ⟨by first | rfl | (simp; done) | (simp [*]; done), by repeat (first | exact Drawn0.refl _ | apply Drawn0.step)⟩
                    · rw [if_neg c15] at H
                      have c15b0 : decide (57 < (bt a0 x6_3)) = false := decide_eq_false c15
                      clear c15
                      by_cases c16 : (wrap64 ((a0.size : Int) - x5_7)) > 18
                      · rw [if_pos c16] at H
                        have c16b0 : decide (18 < (wrap64 ((a0.size : Int) - x5_7))) = true := decide_eq_true c16
                        clear c16
                        simp only [Option.some.injEq, Prod.mk.injEq] at H
                        obtain ⟨rfl, rfl⟩ := H
                        have p12 : 0 ≤ (x6_3 : Int) := of_decide_eq_true (by first | (with_reducible assumption) | assumption)
                        have q12 : x6_3 < (a0.size : Int) := of_decide_eq_true (by first | (with_reducible assumption) | assumption)
                        have hx12 := bt_at a0 x6_3
                        replace p12 := eq_true p12
                        replace q12 := eq_true q12
                        have p14 : 0 ≤ (x6_3 : Int) := of_decide_eq_true (by first | (with_reducible assumption) | assumption)
                        have q14 : x6_3 < (a0.size : Int) := of_decide_eq_true (by first | (with_reducible assumption) | assumption)
                        have hx14 := bt_at a0 x6_3
                        replace p14 := eq_true p14
                        replace q14 := eq_true q14
                        go_wp2
                        go_ret2
                        exact ⟨by first | rfl | (simp; done) | (simp [*]; done), by repeat (first | exact Drawn0.refl _ | apply Drawn0.step)⟩
                      · rw [if_neg c16] at H
                        have c16b0 : decide (18 < (wrap64 ((a0.size : Int) - x5_7))) = false := decide_eq_false c16
                        clear c16
                        have H' := Aside0.mk H
                        clear H
                        have p12 : 0 ≤ (x6_3 : Int) := of_decide_eq_true (by first | (with_reducible assumption) | assumption)
                        have q12 : x6_3 < (a0.size : Int) := of_decide_eq_true (by first | (with_reducible assumption) | assumption)
                        have hx12 := bt_at a0 x6_3
                        replace p12 := eq_true p12
                        replace q12 := eq_true q12
                        have p14 : 0 ≤ (x6_3 : Int) := of_decide_eq_true (by first | (with_reducible assumption) | assumption)
                        have q14 : x6_3 < (a0.size : Int) := of_decide_eq_true (by first | (with_reducible assumption) | assumption)
                        have hx14 := bt_at a0 x6_3
                        replace p14 := eq_true p14
                        replace q14 := eq_true q14
                        have p17 : 0 ≤ (x6_3 : Int) := of_decide_eq_true (by first | (with_reducible assumption) | assumption)
                        have q17 : x6_3 < (a0.size : Int) := of_decide_eq_true (by first | (with_reducible assumption) | assumption)
                        have hx17 := bt_at a0 x6_3
                        replace p17 := eq_true p17
                        replace q17 := eq_true q17
                        go_wp2
                        go_roundg k3
                        case measure => have := HJ1.out; have := HJ7.out; have := HK3.out; omega
                        case rel => exact ⟨(wrap64 ((wrap64 (10 * x4_3)) + (((bt a0 x6_3) - 48) % 256))), (wrap64 (x6_3 + 1)), (by first | rfl | (simp; done) | (simp [*]; done)), (by first | rfl | (simp; done) | (simp [*]; done)), H', ⟨by have := HJ1.out; have := HJ7.out; have := HK3.out; omega⟩, by repeat (first | exact Drawn0.refl _ | apply Drawn0.step)⟩
                · rw [if_neg c11] at H
                  exact absurd H (by simp)
              · rw [if_neg c10] at H
                have c10b0 : decide (x6_3 < (a0.size : Int)) = false := decide_eq_false c10
                clear c10
                by_cases c18 : (a0.size : Int) = x5_7
                · rw [if_pos c18] at H
                  have c18b0 : ((a0.size : Int) == x5_7) = true := beq_iff_eq.mpr c18
                  have c18b1 : ((a0.size : Int) != x5_7) = false := bne_eq_false_iff_eq.mpr c18
                  clear c18
                  simp only [Option.some.injEq, Prod.mk.injEq] at H
                  obtain ⟨rfl, rfl⟩ := H
                  go_wp2
                  go_ret2
                  exact ⟨by first | rfl | (simp; done) | (simp [*]; done), by repeat (first | exact Drawn0.refl _ | apply Drawn0.step)⟩
                · rw [if_neg c18] at H
                  have c18b0 : ((a0.size : Int) == x5_7) = false := beq_eq_false_iff_ne.mpr c18
                  have c18b1 : ((a0.size : Int) != x5_7) = true := bne_iff_ne.mpr c18
                  by_cases c19 : 0 < (a0.size : Int)
                  · rw [if_pos c19] at H
                    have c19b0 : decide (0 < (a0.size : Int)) = true := decide_eq_true c19
                    have c19b1 : decide (0 < a0.size) = true := decide_eq_true (by omega)
                    clear c19
                    by_cases c21 : (bt a0 0) = 45
                    · rw [if_pos c21] at H
                      have c21b0 : ((bt a0 0) == 45) = true := beq_iff_eq.mpr c21
                      have c21b1 : ((bt a0 0) != 45) = false := bne_eq_false_iff_eq.mpr c21
                      clear c21
                      simp only [Option.some.injEq, Prod.mk.injEq] at H
                      obtain ⟨rfl, rfl⟩ := H
                      have p20 : 0 ≤ (0 : Int) := (by omega)
                      have q20 : 0 < a0.size := (by have : (0 : Int) < (a0.size : Int) := of_decide_eq_true (by first | (with_reducible assumption) | assumption); omega)
                      have hx20 : ∀ h : 0 < a0.size, ((a0[0]'h).toNat : Int) = bt a0 0 := bt_at a0 0
                      clear p20
                      have qi20 : (0 < (a0.size : Int)) = True := eq_true (of_decide_eq_true (by first | (with_reducible assumption) | assumption))
                      replace q20 := eq_true q20
                      go_wp2
                      go_ret2
                      exact ⟨by first | rfl | (simp; done) | (simp [*]; done), by repeat (first | exact Drawn0.refl _ | apply Drawn0.step)⟩
                    · rw [if_neg c21] at H
                      have c21b0 : ((bt a0 0) == 45) = false := beq_eq_false_iff_ne.mpr c21
                      have c21b1 : ((bt a0 0) != 45) = true := bne_iff_ne.mpr c21
                      simp only [Option.some.injEq, Prod.mk.injEq] at H
                      obtain ⟨rfl, rfl⟩ := H
                      have p20 : 0 ≤ (0 : Int) := (by omega)
                      have q20 : 0 < a0.size := (by have : (0 : Int) < (a0.size : Int) := of_decide_eq_true (by first | (with_reducible assumption) | assumption); omega)
                      have hx20 : ∀ h : 0 < a0.size, ((a0[0]'h).toNat : Int) = bt a0 0 := bt_at a0 0
                      clear p20
                      have qi20 : (0 < (a0.size : Int)) = True := eq_true (of_decide_eq_true (by first | (with_reducible assumption) | assumption))
                      replace q20 := eq_true q20
                      go_wp2
                      go_ret2
                      exact ⟨by first | rfl | (simp; done) | (simp [*]; done), by repeat (first | exact Drawn0.refl _ | apply Drawn0.step)⟩
                  · rw [if_neg c19] at H
                    exact absurd H (by simp)

end Go.Proofs.YtbomcdnijklgjaaGreatDoor.PFnConfigValues
