/- The machine side of laws.FnModelAdd: each function of this text answers what its Lean function answers (written for this claim by a program of this session over the kit's print; no condition beyond what each theorem says). -/
import Derived.Test.YtjglpjlbnmpdfaaGreatDoorOFnModelAddx0
namespace Go.Proofs.YtjglpjlbnmpdfaaGreatDoor.PFnModelAdd
open Go.RowKit Go.Proofs.YtjglpjlbnmpdfaaGreatDoorW.PrintWords Go.Proofs.YtjglpjlbnmpdfaaGreatDoorW.PrintLast Go.Proofs.YtjglpjlbnmpdfaaGreatDoorW.PrintMore
attribute [local go_sem] max2_int min2_int max_two min_two max_three min_three max_four min_four   -- for this text's walks alone
set_option linter.unusedVariables false
set_option linter.unusedSimpArgs false

/-! ### model_zzIndex: function 74 -/
def model_zzIndex.l0 : Nat → ByteArray → ByteArray → Int → Option (Int)
 | 0, _, _, _ => none
 | k + 1, x0, x1, x5 => if (wrap64 (x5 + (x1.size : Int))) ≤ (x0.size : Int) then (if 0 ≤ x5 then (if x5 ≤ (wrap64 (x5 + (x1.size : Int))) then (if (x0.extract (x5 : Int).toNat ((wrap64 (x5 + (x1.size : Int))) : Int).toNat).toList = x1.toList then (some x5) else (model_zzIndex.l0 k x0 x1 (wrap64 (x5 + 1)))) else (none)) else (none)) else (some (-1))
def model_zzIndex.f (k : Nat) (a0 : ByteArray) (a1 : ByteArray) : Option (Int) := model_zzIndex.l0 k a0 a1 0
theorem model_zzIndex.mono_l : ∀ k, (∀ y0 y1 y2, LeO (model_zzIndex.l0 k y0 y1 y2) (model_zzIndex.l0 (k + 1) y0 y1 y2))
 | 0 => fun _ _ _ r h => by simp [model_zzIndex.l0] at h
 | k + 1 => by
  have ih0 := model_zzIndex.mono_l k
  ·intro y0 y1 y2
   unfold model_zzIndex.l0
   repeat' first
   | (with_reducible exact ih0 _ _ _)
   | (with_reducible exact LeO.refl _)
   | (with_reducible exact LeO.none _)
   | (with_reducible refine LeO.ite ?_ ?_)
   | (with_reducible refine LeO.bind ?_ (fun _ => ?_))
   | exact ih0 _ _ _
   | exact LeO.none _
   | refine LeO.ite ?_ ?_
   | refine LeO.bind ?_ (fun _ => ?_)
theorem model_zzIndex.mono : ∀ a0 a1 k, LeO (model_zzIndex.f k a0 a1) (model_zzIndex.f (k + 1) a0 a1) := by
 intro a0 a1 k
 have ih0 := model_zzIndex.mono_l k
 unfold model_zzIndex.f
 repeat' first
   | (with_reducible exact ih0 _ _ _)
   | (with_reducible exact LeO.refl _)
   | (with_reducible exact LeO.none _)
   | (with_reducible refine LeO.ite ?_ ?_)
   | (with_reducible refine LeO.bind ?_ (fun _ => ?_))
   | exact ih0 _ _ _
   | exact LeO.none _
   | refine LeO.ite ?_ ?_
   | refine LeO.bind ?_ (fun _ => ?_)
set_option maxHeartbeats 8000000 in
set_option maxRecDepth 100000 in
theorem model_zzIndex.calls (k : Nat) (a0 : ByteArray) (a1 : ByteArray) (r : Int) (w : World) (h : model_zzIndex.f k a0 a1 = some r) :
  Calls Tryz.prog 74 #[.string a0, .string a1] w fun e w' => e = .returned (.int .i64 r) ∧ Drawn0 w w' := by
 have H : (model_zzIndex.l0 k a0 a1 0) = some r := h
 clear h
 have H' := Aside0.mk H
 clear H
 go_enter Tryz.func74, Tryz.ntmps74
 go_wp2
 go_loopg [5] k (fun kq v5 w' => ∃ (x5_1 : Int), v5 = .int .i64 x5_1 ∧ Aside0 (model_zzIndex.l0 kq a0 a1 x5_1 = some r) ∧ Aside0 (kq ≤ k) ∧ Drawn0 w w')
 case atStart => exact ⟨(0), orf, H', ⟨Nat.le_refl _⟩, by repeat (first | exact Drawn0.refl _ | apply Drawn0.step)⟩
 case round =>
  clear H'
  try clear p2
  obtain ⟨x5_1, rfl, HA, HK1, ⟨m1, rfl⟩⟩ := hrel
  cases gk with
  | zero => exact absurd HA.out (by simp [model_zzIndex.l0])
  | succ k1 =>
   have H := HA.out
   clear HA
   simp only [model_zzIndex.l0] at H
   by_cases c3 : (wrap64 (x5_1 + (a1.size : Int))) ≤ (a0.size : Int)
   ·rw [if_pos c3] at H
    have c3b0 : decide ((wrap64 (x5_1 + (a1.size : Int))) ≤ (a0.size : Int)) = true := decide_eq_true c3
    clear c3
    by_cases c4 : 0 ≤ x5_1
    ·rw [if_pos c4] at H
     have c4b0 := eq_true c4
     have c4b1 : decide (0 ≤ x5_1) = true := decide_eq_true c4
     clear c4
     by_cases c5 : x5_1 ≤ (wrap64 (x5_1 + (a1.size : Int)))
     ·rw [if_pos c5] at H
      have c5b0 := eq_true c5
      have c5b1 : decide (x5_1 ≤ (wrap64 (x5_1 + (a1.size : Int)))) = true := decide_eq_true c5
      have c6b0 := eq_true (odt : (wrap64 (x5_1 + (a1.size : Int))) ≤ (a0.size : Int))
      by_cases c7 : (a0.extract (x5_1 : Int).toNat ((wrap64 (x5_1 + (a1.size : Int))) : Int).toNat).toList = a1.toList
      ·rw [if_pos c7] at H
       have c7b0 : ((a0.extract (x5_1 : Int).toNat ((wrap64 (x5_1 + (a1.size : Int))) : Int).toNat).toList == a1.toList) = true := beq_iff_eq.mpr c7
       have c7b1 : ((a0.extract (x5_1 : Int).toNat ((wrap64 (x5_1 + (a1.size : Int))) : Int).toNat).toList != a1.toList) = false := bne_eq_false_iff_eq.mpr c7
       clear c7
       obtain rfl := Option.some.inj H
       go_wp2
       go_ret
       exact ⟨by first | rfl | (simp; done) | (simp [*]; done), by repeat (first | exact Drawn0.refl _ | apply Drawn0.step)⟩
      ·rw [if_neg c7] at H
       have c7b0 : ((a0.extract (x5_1 : Int).toNat ((wrap64 (x5_1 + (a1.size : Int))) : Int).toNat).toList == a1.toList) = false := beq_eq_false_iff_ne.mpr c7
       have c7b1 : ((a0.extract (x5_1 : Int).toNat ((wrap64 (x5_1 + (a1.size : Int))) : Int).toNat).toList != a1.toList) = true := bne_iff_ne.mpr c7
       have H' := Aside0.mk H
       clear H
       go_wp2
       go_roundg k1
       case measure => have := HK1.out; omega
       case rel => exact ⟨(wrap64 (x5_1 + 1)), orf, H', ⟨by have := HK1.out; omega⟩, by repeat (first | exact Drawn0.refl _ | apply Drawn0.step)⟩
     ·rw [if_neg c5] at H
      exact absurd H (by simp)
    ·rw [if_neg c4] at H
     exact absurd H (by simp)
   ·rw [if_neg c3] at H
    have c3b0 : decide ((wrap64 (x5_1 + (a1.size : Int))) ≤ (a0.size : Int)) = false := decide_eq_false c3
    clear c3
    obtain rfl := Option.some.inj H
    go_wp2
    go_ret
    exact ⟨by first | rfl | (simp; done) | (simp [*]; done), by repeat (first | exact Drawn0.refl _ | apply Drawn0.step)⟩

/-! ### strings_TrimSpace: function 52 -/
/-- the text without white space at its ends, where all its bytes are ASCII -/
def strings_TrimSpace.f (a0 : ByteArray) : Option ByteArray := if (a0.data.toList.all fun b => decide (b.toNat < 128)) = true ∧ a0.size ≤ 9223372036854775807 then some ⟨(Lib.trimSpace a0.data.toList).toArray⟩ else none
/-- the library's table of white space lies as it is laid at the start -/
abbrev StrTab (w : World) : Prop := Lib.TabIs Tryz.prog w "strings.asciiSpace" .u8 Lib.asciiSpaceTab
theorem strtab_below {w w' : World} (h : StrTab w) (hb : Below w.heap.size w w') : StrTab w' := by
 have hgn : Tryz.prog.globalNamed "strings.asciiSpace" = some 0 := by kernel_rfl
 unfold StrTab Lib.TabIs World.var? at h ⊢
 rw [hgn] at h ⊢
 simp only [Option.bind_some] at h ⊢
 have hlt : 0 < w.heap.size := by
  rcases Nat.lt_or_ge 0 w.heap.size with h' | h'
  ·exact h'
  ·rw [Array.getElem?_eq_none h'] at h; cases h
 rw [hb.block 0 hlt]
 exact h
theorem strings_TrimSpace.calls (a0 : ByteArray) (r : ByteArray) (w : World) (htab : StrTab w) (h : strings_TrimSpace.f a0 = some r) :
  Calls Tryz.prog 52 #[.string a0] w fun e w' => e = .returned (.string r) ∧ Below w.heap.size w w' := by
 unfold strings_TrimSpace.f at h
 by_cases hg : (a0.data.toList.all fun b => decide (b.toNat < 128)) = true ∧ a0.size ≤ 9223372036854775807
 ·rw [if_pos hg] at h
  obtain rfl := Option.some.inj h
  refine (Tryz.strings_TrimSpace a0 w hg.2 (fun j b hb => ?_) htab).mono ?_
  ·have := List.all_eq_true.1 hg.1 b (List.mem_of_getElem? hb)
   exact of_decide_eq_true this
  ·rintro e w' ⟨rfl, rfl⟩
   refine ⟨rfl, ?_⟩
   exact (Below.refl w.heap.size w).grown (row := none) ⟨rfl, rfl, rfl, by rw [Lib.bytesWorld_size]; omega, fun k hk _ => Lib.bytesWorld_at_old w _ a0 k hk⟩ (Nat.le_refl _) (fun k hk => by cases hk)
 ·rw [if_neg hg] at h; cases h

/-! ### util_zzBefore: function 102 -/
def util_zzBefore.f (a0 : Int) : Option (Bool) := if a0 = 40 then (some true) else (if a0 = 41 then (some true) else (if a0 = 32 then (some true) else (if a0 = 9 then (some true) else (if a0 = 10 then (some true) else (if a0 = 12 then (some true) else (if a0 = 13 then (some true) else (if a0 = 124 then (some true) else (if a0 = 38 then (some true) else (if a0 = 44 then (some true) else (if a0 = 61 then (some true) else (if a0 = 33 then (some true) else (if a0 = 62 then (some true) else (if a0 = 60 then (some true) else (if a0 = 43 then (some true) else (if a0 = 45 then (some true) else (if a0 = 42 then (some true) else (if a0 = 47 then (some true) else (some false))))))))))))))))))
set_option maxHeartbeats 8000000 in
set_option maxRecDepth 100000 in
theorem util_zzBefore.calls (a0 : Int) (r : Bool) (w : World) (h : util_zzBefore.f a0 = some r) :
  Calls Tryz.prog 102 #[.int .u8 a0] w fun e w' => e = .returned (.bool r) ∧ Drawn0 w w' := by
 have H : (if a0 = 40 then (some true) else (if a0 = 41 then (some true) else (if a0 = 32 then (some true) else (if a0 = 9 then (some true) else (if a0 = 10 then (some true) else (if a0 = 12 then (some true) else (if a0 = 13 then (some true) else (if a0 = 124 then (some true) else (if a0 = 38 then (some true) else (if a0 = 44 then (some true) else (if a0 = 61 then (some true) else (if a0 = 33 then (some true) else (if a0 = 62 then (some true) else (if a0 = 60 then (some true) else (if a0 = 43 then (some true) else (if a0 = 45 then (some true) else (if a0 = 42 then (some true) else (if a0 = 47 then (some true) else (some false))))))))))))))))))) = some r := h
 clear h
 by_cases c2 : a0 = 40
 ·rw [if_pos c2] at H
  have c2b0 : (a0 == 40) = true := beq_iff_eq.mpr c2
  have c2b1 : (a0 != 40) = false := bne_eq_false_iff_eq.mpr c2
  clear c2
  obtain rfl := Option.some.inj H
  go_enter Tryz.func102, Tryz.ntmps102
  go_wp2
  go_ret
  exact ⟨by first | rfl | (simp; done) | (simp [*]; done), by repeat (first | exact Drawn0.refl _ | apply Drawn0.step)⟩
 ·rw [if_neg c2] at H
  have c2b0 : (a0 == 40) = false := beq_eq_false_iff_ne.mpr c2
  have c2b1 : (a0 != 40) = true := bne_iff_ne.mpr c2
  by_cases c3 : a0 = 41
  ·rw [if_pos c3] at H
   have c3b0 : (a0 == 41) = true := beq_iff_eq.mpr c3
   have c3b1 : (a0 != 41) = false := bne_eq_false_iff_eq.mpr c3
   clear c3
   obtain rfl := Option.some.inj H
   go_enter Tryz.func102, Tryz.ntmps102
   go_wp2
   go_ret
   exact ⟨by first | rfl | (simp; done) | (simp [*]; done), by repeat (first | exact Drawn0.refl _ | apply Drawn0.step)⟩
  ·rw [if_neg c3] at H
   have c3b0 : (a0 == 41) = false := beq_eq_false_iff_ne.mpr c3
   have c3b1 : (a0 != 41) = true := bne_iff_ne.mpr c3
   by_cases c4 : a0 = 32
   ·rw [if_pos c4] at H
    have c4b0 : (a0 == 32) = true := beq_iff_eq.mpr c4
    have c4b1 : (a0 != 32) = false := bne_eq_false_iff_eq.mpr c4
    clear c4
    obtain rfl := Option.some.inj H
    go_enter Tryz.func102, Tryz.ntmps102
    go_wp2
    go_ret
    exact ⟨by first | rfl | (simp; done) | (simp [*]; done), by repeat (first | exact Drawn0.refl _ | apply Drawn0.step)⟩
   ·rw [if_neg c4] at H
    have c4b0 : (a0 == 32) = false := beq_eq_false_iff_ne.mpr c4
    have c4b1 : (a0 != 32) = true := bne_iff_ne.mpr c4
    by_cases c5 : a0 = 9
    ·rw [if_pos c5] at H
     have c5b0 : (a0 == 9) = true := beq_iff_eq.mpr c5
     have c5b1 : (a0 != 9) = false := bne_eq_false_iff_eq.mpr c5
     clear c5
     obtain rfl := Option.some.inj H
     go_enter Tryz.func102, Tryz.ntmps102
     go_wp2
     go_ret
     exact ⟨by first | rfl | (simp; done) | (simp [*]; done), by repeat (first | exact Drawn0.refl _ | apply Drawn0.step)⟩
    ·rw [if_neg c5] at H
     have c5b0 : (a0 == 9) = false := beq_eq_false_iff_ne.mpr c5
     have c5b1 : (a0 != 9) = true := bne_iff_ne.mpr c5
     by_cases c6 : a0 = 10
     ·rw [if_pos c6] at H
      have c6b0 : (a0 == 10) = true := beq_iff_eq.mpr c6
      have c6b1 : (a0 != 10) = false := bne_eq_false_iff_eq.mpr c6
      clear c6
      obtain rfl := Option.some.inj H
      go_enter Tryz.func102, Tryz.ntmps102
      go_wp2
      go_ret
      exact ⟨by first | rfl | (simp; done) | (simp [*]; done), by repeat (first | exact Drawn0.refl _ | apply Drawn0.step)⟩
     ·rw [if_neg c6] at H
      have c6b0 : (a0 == 10) = false := beq_eq_false_iff_ne.mpr c6
      have c6b1 : (a0 != 10) = true := bne_iff_ne.mpr c6
      by_cases c7 : a0 = 12
      ·rw [if_pos c7] at H
       have c7b0 : (a0 == 12) = true := beq_iff_eq.mpr c7
       have c7b1 : (a0 != 12) = false := bne_eq_false_iff_eq.mpr c7
       clear c7
       obtain rfl := Option.some.inj H
       go_enter Tryz.func102, Tryz.ntmps102
       go_wp2
       go_ret
       exact ⟨by first | rfl | (simp; done) | (simp [*]; done), by repeat (first | exact Drawn0.refl _ | apply Drawn0.step)⟩
      ·rw [if_neg c7] at H
       have c7b0 : (a0 == 12) = false := beq_eq_false_iff_ne.mpr c7
       have c7b1 : (a0 != 12) = true := bne_iff_ne.mpr c7
       by_cases c8 : a0 = 13
       ·rw [if_pos c8] at H
        have c8b0 : (a0 == 13) = true := beq_iff_eq.mpr c8
        have c8b1 : (a0 != 13) = false := bne_eq_false_iff_eq.mpr c8
        clear c8
        obtain rfl := Option.some.inj H
        go_enter Tryz.func102, Tryz.ntmps102
        go_wp2
        go_ret
        exact ⟨by first | rfl | (simp; done) | (simp [*]; done), by repeat (first | exact Drawn0.refl _ | apply Drawn0.step)⟩
       ·rw [if_neg c8] at H
        have c8b0 : (a0 == 13) = false := beq_eq_false_iff_ne.mpr c8
        have c8b1 : (a0 != 13) = true := bne_iff_ne.mpr c8
        by_cases c9 : a0 = 124
        ·rw [if_pos c9] at H
         have c9b0 : (a0 == 124) = true := beq_iff_eq.mpr c9
         have c9b1 : (a0 != 124) = false := bne_eq_false_iff_eq.mpr c9
         clear c9
         obtain rfl := Option.some.inj H
         go_enter Tryz.func102, Tryz.ntmps102
         go_wp2
         go_ret
         exact ⟨by first | rfl | (simp; done) | (simp [*]; done), by repeat (first | exact Drawn0.refl _ | apply Drawn0.step)⟩
        ·rw [if_neg c9] at H
         have c9b0 : (a0 == 124) = false := beq_eq_false_iff_ne.mpr c9
         have c9b1 : (a0 != 124) = true := bne_iff_ne.mpr c9
         by_cases c10 : a0 = 38
         ·rw [if_pos c10] at H
          have c10b0 : (a0 == 38) = true := beq_iff_eq.mpr c10
          have c10b1 : (a0 != 38) = false := bne_eq_false_iff_eq.mpr c10
          clear c10
          obtain rfl := Option.some.inj H
          go_enter Tryz.func102, Tryz.ntmps102
          go_wp2
          go_ret
          exact ⟨by first | rfl | (simp; done) | (simp [*]; done), by repeat (first | exact Drawn0.refl _ | apply Drawn0.step)⟩
         ·rw [if_neg c10] at H
          have c10b0 : (a0 == 38) = false := beq_eq_false_iff_ne.mpr c10
          have c10b1 : (a0 != 38) = true := bne_iff_ne.mpr c10
          by_cases c11 : a0 = 44
          ·rw [if_pos c11] at H
           have c11b0 : (a0 == 44) = true := beq_iff_eq.mpr c11
           have c11b1 : (a0 != 44) = false := bne_eq_false_iff_eq.mpr c11
           clear c11
           obtain rfl := Option.some.inj H
           go_enter Tryz.func102, Tryz.ntmps102
           go_wp2
           go_ret
           exact ⟨by first | rfl | (simp; done) | (simp [*]; done), by repeat (first | exact Drawn0.refl _ | apply Drawn0.step)⟩
          ·rw [if_neg c11] at H
           have c11b0 : (a0 == 44) = false := beq_eq_false_iff_ne.mpr c11
           have c11b1 : (a0 != 44) = true := bne_iff_ne.mpr c11
           by_cases c12 : a0 = 61
           ·rw [if_pos c12] at H
            have c12b0 : (a0 == 61) = true := beq_iff_eq.mpr c12
            have c12b1 : (a0 != 61) = false := bne_eq_false_iff_eq.mpr c12
            clear c12
            obtain rfl := Option.some.inj H
            go_enter Tryz.func102, Tryz.ntmps102
            go_wp2
            go_ret
            exact ⟨by first | rfl | (simp; done) | (simp [*]; done), by repeat (first | exact Drawn0.refl _ | apply Drawn0.step)⟩
           ·rw [if_neg c12] at H
            have c12b0 : (a0 == 61) = false := beq_eq_false_iff_ne.mpr c12
            have c12b1 : (a0 != 61) = true := bne_iff_ne.mpr c12
            by_cases c13 : a0 = 33
            ·rw [if_pos c13] at H
             have c13b0 : (a0 == 33) = true := beq_iff_eq.mpr c13
             have c13b1 : (a0 != 33) = false := bne_eq_false_iff_eq.mpr c13
             clear c13
             obtain rfl := Option.some.inj H
             go_enter Tryz.func102, Tryz.ntmps102
             go_wp2
             go_ret
             exact ⟨by first | rfl | (simp; done) | (simp [*]; done), by repeat (first | exact Drawn0.refl _ | apply Drawn0.step)⟩
            ·rw [if_neg c13] at H
             have c13b0 : (a0 == 33) = false := beq_eq_false_iff_ne.mpr c13
             have c13b1 : (a0 != 33) = true := bne_iff_ne.mpr c13
             by_cases c14 : a0 = 62
             ·rw [if_pos c14] at H
              have c14b0 : (a0 == 62) = true := beq_iff_eq.mpr c14
              have c14b1 : (a0 != 62) = false := bne_eq_false_iff_eq.mpr c14
              clear c14
              obtain rfl := Option.some.inj H
              go_enter Tryz.func102, Tryz.ntmps102
              go_wp2
              go_ret
              exact ⟨by first | rfl | (simp; done) | (simp [*]; done), by repeat (first | exact Drawn0.refl _ | apply Drawn0.step)⟩
             ·rw [if_neg c14] at H
              have c14b0 : (a0 == 62) = false := beq_eq_false_iff_ne.mpr c14
              have c14b1 : (a0 != 62) = true := bne_iff_ne.mpr c14
              by_cases c15 : a0 = 60
              ·rw [if_pos c15] at H
               have c15b0 : (a0 == 60) = true := beq_iff_eq.mpr c15
               have c15b1 : (a0 != 60) = false := bne_eq_false_iff_eq.mpr c15
               clear c15
               obtain rfl := Option.some.inj H
               go_enter Tryz.func102, Tryz.ntmps102
               go_wp2
               go_ret
               exact ⟨by first | rfl | (simp; done) | (simp [*]; done), by repeat (first | exact Drawn0.refl _ | apply Drawn0.step)⟩
              ·rw [if_neg c15] at H
               have c15b0 : (a0 == 60) = false := beq_eq_false_iff_ne.mpr c15
               have c15b1 : (a0 != 60) = true := bne_iff_ne.mpr c15
               by_cases c16 : a0 = 43
               ·rw [if_pos c16] at H
                have c16b0 : (a0 == 43) = true := beq_iff_eq.mpr c16
                have c16b1 : (a0 != 43) = false := bne_eq_false_iff_eq.mpr c16
                clear c16
                obtain rfl := Option.some.inj H
                go_enter Tryz.func102, Tryz.ntmps102
                go_wp2
                go_ret
                exact ⟨by first | rfl | (simp; done) | (simp [*]; done), by repeat (first | exact Drawn0.refl _ | apply Drawn0.step)⟩
               ·rw [if_neg c16] at H
                have c16b0 : (a0 == 43) = false := beq_eq_false_iff_ne.mpr c16
                have c16b1 : (a0 != 43) = true := bne_iff_ne.mpr c16
                by_cases c17 : a0 = 45
                ·rw [if_pos c17] at H
                 have c17b0 : (a0 == 45) = true := beq_iff_eq.mpr c17
                 have c17b1 : (a0 != 45) = false := bne_eq_false_iff_eq.mpr c17
                 clear c17
                 obtain rfl := Option.some.inj H
                 go_enter Tryz.func102, Tryz.ntmps102
                 go_wp2
                 go_ret
                 exact ⟨by first | rfl | (simp; done) | (simp [*]; done), by repeat (first | exact Drawn0.refl _ | apply Drawn0.step)⟩
                ·rw [if_neg c17] at H
                 have c17b0 : (a0 == 45) = false := beq_eq_false_iff_ne.mpr c17
                 have c17b1 : (a0 != 45) = true := bne_iff_ne.mpr c17
                 by_cases c18 : a0 = 42
                 ·rw [if_pos c18] at H
                  have c18b0 : (a0 == 42) = true := beq_iff_eq.mpr c18
                  have c18b1 : (a0 != 42) = false := bne_eq_false_iff_eq.mpr c18
                  clear c18
                  obtain rfl := Option.some.inj H
                  go_enter Tryz.func102, Tryz.ntmps102
                  go_wp2
                  go_ret
                  exact ⟨by first | rfl | (simp; done) | (simp [*]; done), by repeat (first | exact Drawn0.refl _ | apply Drawn0.step)⟩
                 ·rw [if_neg c18] at H
                  have c18b0 : (a0 == 42) = false := beq_eq_false_iff_ne.mpr c18
                  have c18b1 : (a0 != 42) = true := bne_iff_ne.mpr c18
                  by_cases c19 : a0 = 47
                  ·rw [if_pos c19] at H
                   have c19b0 : (a0 == 47) = true := beq_iff_eq.mpr c19
                   have c19b1 : (a0 != 47) = false := bne_eq_false_iff_eq.mpr c19
                   clear c19
                   obtain rfl := Option.some.inj H
                   go_enter Tryz.func102, Tryz.ntmps102
                   go_wp2
                   go_ret
                   exact ⟨by first | rfl | (simp; done) | (simp [*]; done), by repeat (first | exact Drawn0.refl _ | apply Drawn0.step)⟩
                  ·rw [if_neg c19] at H
                   have c19b0 : (a0 == 47) = false := beq_eq_false_iff_ne.mpr c19
                   have c19b1 : (a0 != 47) = true := bne_iff_ne.mpr c19
                   obtain rfl := Option.some.inj H
                   go_enter Tryz.func102, Tryz.ntmps102
                   go_wp2
                   go_ret
                   exact ⟨by first | rfl | (simp; done) | (simp [*]; done), by repeat (first | exact Drawn0.refl _ | apply Drawn0.step)⟩

/-! ### util_zzName: function 103 -/
mutual
def util_zzName.j0 : Nat → ByteArray → Int → Bool → Option (Int)
 | 0, _, _, _ => none
 | k + 1, x0, x1, x20 => if x20 = true then (some (-1)) else (util_zzName.l0 k x0 (wrap64 (x1 + 1)))
def util_zzName.l0 : Nat → ByteArray → Int → Option (Int)
 | 0, _, _ => none
 | k + 1, x0, x1 => if x1 < (x0.size : Int) then (if 0 ≤ x1 then (if (bt x0 x1) ≥ 48 then (if (bt x0 x1) ≤ 57 then (util_zzName.l0 k x0 (wrap64 (x1 + 1))) else (if (bt x0 x1) = 46 then (some (wrap64 (x1 + 1))) else (some (-1)))) else (if (bt x0 x1) = 46 then (some (wrap64 (x1 + 1))) else (some (-1)))) else (none)) else (some (-1))
end
def util_zzName.f (k : Nat) (a0 : ByteArray) (a1 : Int) : Option (Int) := if a1 ≥ (a0.size : Int) then (util_zzName.j0 k a0 a1 true) else (if 0 ≤ a1 then (if a1 < (a0.size : Int) then (if (bt a0 a1) = 114 then (util_zzName.j0 k a0 a1 false) else (util_zzName.j0 k a0 a1 ((bt a0 a1) != 112))) else (none)) else (none))
theorem util_zzName.mono_l : ∀ k, (∀ y0 y1 y2, LeO (util_zzName.j0 k y0 y1 y2) (util_zzName.j0 (k + 1) y0 y1 y2)) ∧ (∀ y0 y1, LeO (util_zzName.l0 k y0 y1) (util_zzName.l0 (k + 1) y0 y1))
 | 0 => ⟨fun _ _ _ r h => by simp [util_zzName.j0] at h, fun _ _ r h => by simp [util_zzName.l0] at h⟩
 | k + 1 => by
  obtain ⟨ih0, ih1⟩ := util_zzName.mono_l k
  refine ⟨?_, ?_⟩
  ·intro y0 y1 y2
   unfold util_zzName.j0
   repeat' first
   | (with_reducible exact ih0 _ _ _)
   | (with_reducible exact ih1 _ _)
   | (with_reducible exact LeO.refl _)
   | (with_reducible exact LeO.none _)
   | (with_reducible refine LeO.ite ?_ ?_)
   | (with_reducible refine LeO.bind ?_ (fun _ => ?_))
   | exact ih0 _ _ _
   | exact ih1 _ _
   | exact LeO.none _
   | refine LeO.ite ?_ ?_
   | refine LeO.bind ?_ (fun _ => ?_)
  ·intro y0 y1
   unfold util_zzName.l0
   repeat' first
   | (with_reducible exact ih0 _ _ _)
   | (with_reducible exact ih1 _ _)
   | (with_reducible exact LeO.refl _)
   | (with_reducible exact LeO.none _)
   | (with_reducible refine LeO.ite ?_ ?_)
   | (with_reducible refine LeO.bind ?_ (fun _ => ?_))
   | exact ih0 _ _ _
   | exact ih1 _ _
   | exact LeO.none _
   | refine LeO.ite ?_ ?_
   | refine LeO.bind ?_ (fun _ => ?_)
theorem util_zzName.mono : ∀ a0 a1 k, LeO (util_zzName.f k a0 a1) (util_zzName.f (k + 1) a0 a1) := by
 intro a0 a1 k
 obtain ⟨ih0, ih1⟩ := util_zzName.mono_l k
 unfold util_zzName.f
 repeat' first
   | (with_reducible exact ih0 _ _ _)
   | (with_reducible exact ih1 _ _)
   | (with_reducible exact LeO.refl _)
   | (with_reducible exact LeO.none _)
   | (with_reducible refine LeO.ite ?_ ?_)
   | (with_reducible refine LeO.bind ?_ (fun _ => ?_))
   | exact ih0 _ _ _
   | exact ih1 _ _
   | exact LeO.none _
   | refine LeO.ite ?_ ?_
   | refine LeO.bind ?_ (fun _ => ?_)
set_option maxHeartbeats 8000000 in
set_option maxRecDepth 100000 in
theorem util_zzName.calls (k : Nat) (a0 : ByteArray) (a1 : Int) (r : Int) (w : World) (h : util_zzName.f k a0 a1 = some r) :
  Calls Tryz.prog 103 #[.string a0, .int .i64 a1] w fun e w' => e = .returned (.int .i64 r) ∧ Drawn0 w w' := by
 have H : (if a1 ≥ (a0.size : Int) then (util_zzName.j0 k a0 a1 true) else (if 0 ≤ a1 then (if a1 < (a0.size : Int) then (if (bt a0 a1) = 114 then (util_zzName.j0 k a0 a1 false) else (util_zzName.j0 k a0 a1 ((bt a0 a1) != 112))) else (none)) else (none))) = some r := h
 clear h
 have HC3 := Aside0.mk H
 clear H
 go_enter Tryz.func103, Tryz.ntmps103
 go_upto_region 1 with (fail)
 go_cut [20] (fun v20 wc => ∃ (kq : Nat) (x20_2 : Bool), v20 = .bool x20_2 ∧ Aside0 (util_zzName.j0 kq a0 a1 x20_2 = some r) ∧ Aside0 (kq ≤ k) ∧ Drawn0 w wc)
 case first =>
  have H := HC3.out
  clear HC3
  by_cases c4 : a1 ≥ (a0.size : Int)
  ·rw [if_pos c4] at H
   have c4b0 : decide ((a0.size : Int) ≤ a1) = true := decide_eq_true c4
   clear c4
   (first | rw [c4b0] | (simp only [i64_w, i32_w]; rw [c4b0]) | skip)
   have H' := Aside0.mk H
   clear H
   go_wp2
   go_meet
   case rel => exact ⟨_, (true), orf, H', ⟨by first | omega | exact Nat.le_refl _⟩, by repeat (first | exact Drawn0.refl _ | apply Drawn0.step)⟩
  ·rw [if_neg c4] at H
   have c4b0 : decide ((a0.size : Int) ≤ a1) = false := decide_eq_false c4
   clear c4
   (first | rw [c4b0] | (simp only [i64_w, i32_w]; rw [c4b0]) | skip)
   by_cases c5 : 0 ≤ a1
   ·rw [if_pos c5] at H
    have c5b0 : decide (0 ≤ a1) = true := decide_eq_true c5
    clear c5
    by_cases c6 : a1 < (a0.size : Int)
    ·rw [if_pos c6] at H
     have c6b0 : decide (a1 < (a0.size : Int)) = true := decide_eq_true c6
     clear c6
     by_cases c8 : (bt a0 a1) = 114
     ·rw [if_pos c8] at H
      have c8b0 : ((bt a0 a1) == 114) = true := beq_iff_eq.mpr c8
      have c8b1 : ((bt a0 a1) != 114) = false := bne_eq_false_iff_eq.mpr c8
      clear c8
      have H' := Aside0.mk H
      clear H
      have p7 : 0 ≤ (a1 : Int) := odt
      have q7 : a1 < (a0.size : Int) := odt
      have hx7 := bt_at a0 a1
      replace p7 := eq_true p7
      replace q7 := eq_true q7
      go_wp2
      go_meet
      case rel => exact ⟨_, (false), orf, H', ⟨by first | omega | exact Nat.le_refl _⟩, by repeat (first | exact Drawn0.refl _ | apply Drawn0.step)⟩
     ·rw [if_neg c8] at H
      have c8b0 : ((bt a0 a1) == 114) = false := beq_eq_false_iff_ne.mpr c8
      have c8b1 : ((bt a0 a1) != 114) = true := bne_iff_ne.mpr c8
      have H' := Aside0.mk H
      clear H
      have p7 : 0 ≤ (a1 : Int) := odt
      have q7 : a1 < (a0.size : Int) := odt
      have hx7 := bt_at a0 a1
      replace p7 := eq_true p7
      replace q7 := eq_true q7
      have p9 : 0 ≤ (a1 : Int) := odt
      have q9 : a1 < (a0.size : Int) := odt
      have hx9 := bt_at a0 a1
      replace p9 := eq_true p9
      replace q9 := eq_true q9
      go_wp2
      go_meet
      case rel => exact ⟨_, (((bt a0 a1) != 112)), orf, H', ⟨by first | omega | exact Nat.le_refl _⟩, by repeat (first | exact Drawn0.refl _ | apply Drawn0.step)⟩
    ·rw [if_neg c6] at H
     exact absurd H (by simp)
   ·rw [if_neg c5] at H
    exact absurd H (by simp)
 case rest =>
  clear HC3
  try clear c1
  try clear p2
  try clear c4
  try clear c4b0
  try clear c5
  try clear c5b0
  try clear c6
  try clear c6b0
  try clear p7
  try clear q7
  try clear hx7
  try clear c8
  try clear c8b0
  try clear c8b1
  try clear p9
  try clear q9
  try clear hx9
  try clear p7
  try clear p9
  try clear q7
  try clear q9
  obtain ⟨kq, x20_2, rfl, HA, HJ2, ⟨mc2, rfl⟩⟩ := hcut
  cases kq with
  | zero => exact absurd HA.out (by simp [util_zzName.j0])
  | succ kj2 =>
   have H := HA.out
   clear HA
   simp only [util_zzName.j0] at H
   by_cases c10 : x20_2 = true
   ·subst c10
    have H1 : (some (-1)) = some r := by rw [if_pos rfl] at H; exact H
    clear H
    have H := H1
    clear H1
    obtain rfl := Option.some.inj H
    go_wp2
    go_ret
    exact ⟨by first | rfl | (simp; done) | (simp [*]; done), by repeat (first | exact Drawn0.refl _ | apply Drawn0.step)⟩
   ·replace c10 := Bool.eq_false_iff.mpr c10
    subst c10
    have H1 : (util_zzName.l0 kj2 a0 (wrap64 (a1 + 1))) = some r := by rw [if_neg (show ¬ (false = true) by decide)] at H; exact H
    clear H
    have H := H1
    clear H1
    have H' := Aside0.mk H
    clear H
    go_wp2
    go_loopg [1] kj2 (fun kq v1 w' => ∃ (x1_2 : Int), v1 = .int .i64 x1_2 ∧ Aside0 (util_zzName.l0 kq a0 x1_2 = some r) ∧ Aside0 (kq ≤ kj2) ∧ Drawn0 w w')
    case atStart => exact ⟨(wrap64 (a1 + 1)), orf, H', ⟨Nat.le_refl _⟩, by repeat (first | exact Drawn0.refl _ | apply Drawn0.step)⟩
    case round =>
     clear H'
     try clear c1
     try clear c2
     try clear p2
     try clear c4
     try clear c4b0
     try clear c5
     try clear c5b0
     try clear c6
     try clear c6b0
     try clear p6
     try clear p7
     try clear q7
     try clear hx7
     try clear c8
     try clear c8b0
     try clear c8b1
     try clear p9
     try clear q9
     try clear hx9
     try clear c10
     try clear p2
     try clear p7
     try clear p9
     try clear q7
     try clear q9
     obtain ⟨x1_2, rfl, HA, HK2, ⟨m2, rfl⟩⟩ := hrel
     cases gk with
     | zero => exact absurd HA.out (by simp [util_zzName.l0])
     | succ k2 =>
      have H := HA.out
      clear HA
      simp only [util_zzName.l0] at H
      by_cases c11 : x1_2 < (a0.size : Int)
      ·rw [if_pos c11] at H
       have c11b0 : decide (x1_2 < (a0.size : Int)) = true := decide_eq_true c11
       clear c11
       by_cases c12 : 0 ≤ x1_2
       ·rw [if_pos c12] at H
        have c12b0 : decide (0 ≤ x1_2) = true := decide_eq_true c12
        clear c12
        by_cases c14 : (bt a0 x1_2) ≥ 48
        ·rw [if_pos c14] at H
         have c14b0 : decide (48 ≤ (bt a0 x1_2)) = true := decide_eq_true c14
         clear c14
         by_cases c16 : (bt a0 x1_2) ≤ 57
         ·rw [if_pos c16] at H
          have c16b0 : decide ((bt a0 x1_2) ≤ 57) = true := decide_eq_true c16
          clear c16
          have H' := Aside0.mk H
          clear H
          have p13 : 0 ≤ (x1_2 : Int) := odt
          have q13 : x1_2 < (a0.size : Int) := odt
          have hx13 := bt_at a0 x1_2
          replace p13 := eq_true p13
          replace q13 := eq_true q13
          have p15 : 0 ≤ (x1_2 : Int) := odt
          have q15 : x1_2 < (a0.size : Int) := odt
          have hx15 := bt_at a0 x1_2
          replace p15 := eq_true p15
          replace q15 := eq_true q15
          go_wp2
          go_roundg k2
          case measure => have := HJ2.out; have := HK2.out; omega
          case rel => exact ⟨(wrap64 (x1_2 + 1)), orf, H', ⟨by have := HJ2.out; have := HK2.out; omega⟩, by repeat (first | exact Drawn0.refl _ | apply Drawn0.step)⟩
         ·rw [if_neg c16] at H
          have c16b0 : decide ((bt a0 x1_2) ≤ 57) = false := decide_eq_false c16
          clear c16
          by_cases c18 : (bt a0 x1_2) = 46
          ·rw [if_pos c18] at H
           have c18b0 : ((bt a0 x1_2) == 46) = true := beq_iff_eq.mpr c18
           have c18b1 : ((bt a0 x1_2) != 46) = false := bne_eq_false_iff_eq.mpr c18
           clear c18
           obtain rfl := Option.some.inj H
           have p13 : 0 ≤ (x1_2 : Int) := odt
           have q13 : x1_2 < (a0.size : Int) := odt
           have hx13 := bt_at a0 x1_2
           replace p13 := eq_true p13
           replace q13 := eq_true q13
           have p15 : 0 ≤ (x1_2 : Int) := odt
           have q15 : x1_2 < (a0.size : Int) := odt
           have hx15 := bt_at a0 x1_2
           replace p15 := eq_true p15
           replace q15 := eq_true q15
           have p17 : 0 ≤ (x1_2 : Int) := odt
           have q17 : x1_2 < (a0.size : Int) := odt
           have hx17 := bt_at a0 x1_2
           replace p17 := eq_true p17
           replace q17 := eq_true q17
           go_wp2
           go_ret
           exact ⟨by first | rfl | (simp; done) | (simp [*]; done), by repeat (first | exact Drawn0.refl _ | apply Drawn0.step)⟩
          ·rw [if_neg c18] at H
           have c18b0 : ((bt a0 x1_2) == 46) = false := beq_eq_false_iff_ne.mpr c18
           have c18b1 : ((bt a0 x1_2) != 46) = true := bne_iff_ne.mpr c18
           obtain rfl := Option.some.inj H
           have p13 : 0 ≤ (x1_2 : Int) := odt
           have q13 : x1_2 < (a0.size : Int) := odt
           have hx13 := bt_at a0 x1_2
           replace p13 := eq_true p13
           replace q13 := eq_true q13
           have p15 : 0 ≤ (x1_2 : Int) := odt
           have q15 : x1_2 < (a0.size : Int) := odt
           have hx15 := bt_at a0 x1_2
           replace p15 := eq_true p15
           replace q15 := eq_true q15
           have p17 : 0 ≤ (x1_2 : Int) := odt
           have q17 : x1_2 < (a0.size : Int) := odt
           have hx17 := bt_at a0 x1_2
           replace p17 := eq_true p17
           replace q17 := eq_true q17
           go_wp2
           go_ret
           exact ⟨by first | rfl | (simp; done) | (simp [*]; done), by repeat (first | exact Drawn0.refl _ | apply Drawn0.step)⟩
        ·rw [if_neg c14] at H
         have c14b0 : decide (48 ≤ (bt a0 x1_2)) = false := decide_eq_false c14
         clear c14
         by_cases c20 : (bt a0 x1_2) = 46
         ·rw [if_pos c20] at H
          have c20b0 : ((bt a0 x1_2) == 46) = true := beq_iff_eq.mpr c20
          have c20b1 : ((bt a0 x1_2) != 46) = false := bne_eq_false_iff_eq.mpr c20
          clear c20
          obtain rfl := Option.some.inj H
          have p13 : 0 ≤ (x1_2 : Int) := odt
          have q13 : x1_2 < (a0.size : Int) := odt
          have hx13 := bt_at a0 x1_2
          replace p13 := eq_true p13
          replace q13 := eq_true q13
          have p19 : 0 ≤ (x1_2 : Int) := odt
          have q19 : x1_2 < (a0.size : Int) := odt
          have hx19 := bt_at a0 x1_2
          replace p19 := eq_true p19
          replace q19 := eq_true q19
          go_wp2
          go_ret
          exact ⟨by first | rfl | (simp; done) | (simp [*]; done), by repeat (first | exact Drawn0.refl _ | apply Drawn0.step)⟩
         ·rw [if_neg c20] at H
          have c20b0 : ((bt a0 x1_2) == 46) = false := beq_eq_false_iff_ne.mpr c20
          have c20b1 : ((bt a0 x1_2) != 46) = true := bne_iff_ne.mpr c20
          obtain rfl := Option.some.inj H
          have p13 : 0 ≤ (x1_2 : Int) := odt
          have q13 : x1_2 < (a0.size : Int) := odt
          have hx13 := bt_at a0 x1_2
          replace p13 := eq_true p13
          replace q13 := eq_true q13
          have p19 : 0 ≤ (x1_2 : Int) := odt
          have q19 : x1_2 < (a0.size : Int) := odt
          have hx19 := bt_at a0 x1_2
          replace p19 := eq_true p19
          replace q19 := eq_true q19
          go_wp2
          go_ret
          exact ⟨by first | rfl | (simp; done) | (simp [*]; done), by repeat (first | exact Drawn0.refl _ | apply Drawn0.step)⟩
       ·rw [if_neg c12] at H
        exact absurd H (by simp)
      ·rw [if_neg c11] at H
       have c11b0 : decide (x1_2 < (a0.size : Int)) = false := decide_eq_false c11
       clear c11
       obtain rfl := Option.some.inj H
       go_wp2
       go_ret
       exact ⟨by first | rfl | (simp; done) | (simp [*]; done), by repeat (first | exact Drawn0.refl _ | apply Drawn0.step)⟩

end Go.Proofs.YtjglpjlbnmpdfaaGreatDoor.PFnModelAdd
