/- The machine side of laws.FnModelAdd: each function of this text answers what its Lean function answers (written for this claim by a program of this session over the kit's print; no condition beyond what each theorem says). -/
import Derived.Test.YtjglpjlbnmpdfaaGreatDoorOFnModelAddx0
namespace Go.Proofs.YtjglpjlbnmpdfaaGreatDoor.PFnModelAdd
open Go.RowKit Go.Proofs.YtjglpjlbnmpdfaaGreatDoorW.PrintWords Go.Proofs.YtjglpjlbnmpdfaaGreatDoorW.PrintLast Go.Proofs.YtjglpjlbnmpdfaaGreatDoorW.PrintMore
attribute [local go_sem] max2_int min2_int max_two min_two max_three min_three max_four min_four   -- for this text's walks alone
set_option linter.unusedVariables false
set_option linter.unusedSimpArgs false

/-! ### spec_Numeral: function 48 -/
def spec_Numeral.l0 : Nat → Int → ByteArray → Option (ByteArray)
 | 0, _, _ => none
 | k + 1, x0, x3 => if x0 ≥ 10 then ((some (([(wrap64 (48 + (Int.tmod (wrap64 (Int.tdiv x0 10)) 10))) % 256] : List Int) : List Int)).bind fun y119 => (if (strOfNums y119).size + x3.size ≤ 9223372036854775807 then (spec_Numeral.l0 k (wrap64 (Int.tdiv x0 10)) ((strOfNums y119) ++ x3)) else (none))) else (some x3)
def spec_Numeral.f (k : Nat) (a0 : Int) : Option (ByteArray) := spec_Numeral.l0 k a0 (strOfNums (([(wrap64 (48 + (Int.tmod a0 10))) % 256] : List Int)))
theorem spec_Numeral.mono_l : ∀ k, (∀ y0 y1, LeO (spec_Numeral.l0 k y0 y1) (spec_Numeral.l0 (k + 1) y0 y1))
 | 0 => fun _ _ r h => by simp [spec_Numeral.l0] at h
 | k + 1 => by
  have ih0 := spec_Numeral.mono_l k
  ·intro y0 y1
   unfold spec_Numeral.l0
   repeat' first
   | (with_reducible exact ih0 _ _)
   | (with_reducible exact LeO.refl _)
   | (with_reducible exact LeO.none _)
   | (with_reducible refine LeO.ite ?_ ?_)
   | (with_reducible refine LeO.bind ?_ (fun _ => ?_))
   | exact ih0 _ _
   | exact LeO.none _
   | refine LeO.ite ?_ ?_
   | refine LeO.bind ?_ (fun _ => ?_)
theorem spec_Numeral.mono : ∀ a0 k, LeO (spec_Numeral.f k a0) (spec_Numeral.f (k + 1) a0) := by
 intro a0 k
 have ih0 := spec_Numeral.mono_l k
 unfold spec_Numeral.f
 repeat' first
   | (with_reducible exact ih0 _ _)
   | (with_reducible exact LeO.refl _)
   | (with_reducible exact LeO.none _)
   | (with_reducible refine LeO.ite ?_ ?_)
   | (with_reducible refine LeO.bind ?_ (fun _ => ?_))
   | exact ih0 _ _
   | exact LeO.none _
   | refine LeO.ite ?_ ?_
   | refine LeO.bind ?_ (fun _ => ?_)
set_option maxHeartbeats 8000000 in
set_option maxRecDepth 100000 in
theorem spec_Numeral.calls (k : Nat) (a0 : Int) (r : ByteArray) (w : World) (h : spec_Numeral.f k a0 = some r) :
  Calls Tryz.prog 48 #[.int .i64 a0] w fun e w' => e = .returned (.string r) ∧ Below w.heap.size w w' := by
 have HB := Aside0.mk (Below.refl w.heap.size w)
 have H : (spec_Numeral.l0 k a0 (strOfNums (([(wrap64 (48 + (Int.tmod a0 10))) % 256] : List Int)))) = some r := h
 clear h
 obtain ⟨y116, hy116⟩ : ∃ y_ : List Int, y_ = (([(wrap64 (48 + (Int.tmod a0 10))) % 256] : List Int)) := ⟨_, rfl⟩
 replace H : (spec_Numeral.l0 k a0 (strOfNums y116)) = some r := by first | (rw [hy116]; with_reducible exact H) | (have H2_ := (Option.bind_some _ _).symm.trans H; rw [hy116]; with_reducible exact H2_) | (have H2_ := (Option.bind_some _ _).symm.trans H; with_reducible exact H2_) | with_reducible exact H | (rw [hy116]; exact H) | exact H
 have Ny116 := Aside0.mk hy116
 clear hy116
 have H' := Aside0.mk H
 clear H
 go_enter Tryz.func48, Tryz.ntmps48
 go_wp2_with (first | ((with_reducible refine gate_dst (N := 8) rfl ?_); refine Kd.R_lit (Kd.int .u8) _ 5 ?hg (N := 8) ?hd (xs := ([(wrap64 (48 + (Int.tmod a0 10))) % 256] : List Int)) (inner := [.int .u8 ((wrap64 (48 + (Int.tmod a0 10))) % 256)]) (ok := fun _ => True) (okp := fun _ => True) ?hr ?hp (fun _ hk => hk) trivial (Below.refl _ _) (Nat.le_refl _) (by simp) ?_; (case hd => rfl); (case hg => rfl); (case hr => first | (go_simp; done) | (go_simp; rfl)); (case hp => exact (Reps.one (show Kd.M (Kd.int .u8) _ _ _ ((wrap64 (48 + (Int.tmod a0 10))) % 256) [.int .u8 ((wrap64 (48 + (Int.tmod a0 10))) % 256)] from rfl) (Reps.none _ _))); intro v117 w2 ho3 hb hg_ hnew_; clear hg_ hnew_; (first | rw [← Ny116.out] at ho3 | (simp only [Int.reduceToNat] at ho3; rw [← Ny116.out] at ho3)); have n0_ := Aside0.mk (Kd.R_lower ho3 (below_size (by repeat (first | (with_reducible first | exact HB.out | apply below_alloc | apply pw_below_drewN | apply below_drew1) | exact HB.out)))); have n1_ := Aside0.mk (below_step (by repeat (first | (with_reducible first | exact HB.out | apply below_alloc | apply pw_below_drewN | apply below_drew1) | exact HB.out)) hb); clear HB; have HO118 := n0_; have HB := n1_; clear n0_ n1_; clear hb ho3; have hcv4 := own_string (P := Tryz.prog) Tryz.underlying121 Tryz.underlying5 Tryz.underlying9 (Kd.own_of_R HO118.out)))
 go_loopg [0, 3] k (fun kq v0 v3 w' => ∃ (x0_1 : Int) (x3_1 : ByteArray), v0 = .int .i64 x0_1 ∧ v3 = .string x3_1 ∧ Aside0 (spec_Numeral.l0 kq x0_1 x3_1 = some r) ∧ Aside0 (kq ≤ k) ∧ Aside0 (Below w.heap.size w w'))
 case atStart => exact ⟨(a0), (strOfNums y116), orf, orf, H', ⟨Nat.le_refl _⟩, ⟨by repeat (first | (with_reducible first | exact HB.out | apply below_alloc | apply pw_below_drewN | apply below_drew1) | exact HB.out)⟩⟩
 case round =>
  clear H'
  try clear p2
  try clear c4
  try clear hcv4
  obtain ⟨x0_1, x3_1, rfl, rfl, HA, HK1, HB⟩ := hrel
  cases gk with
  | zero => exact absurd HA.out (by simp [spec_Numeral.l0])
  | succ k1 =>
   have H := HA.out
   clear HA
   simp only [spec_Numeral.l0] at H
   by_cases c5 : x0_1 ≥ 10
   ·rw [if_pos c5] at H
    have c5b0 : decide (10 ≤ x0_1) = true := decide_eq_true c5
    clear c5
    obtain ⟨y119, hy119⟩ : ∃ y_ : List Int, y_ = (([(wrap64 (48 + (Int.tmod (wrap64 (Int.tdiv x0_1 10)) 10))) % 256] : List Int)) := ⟨_, rfl⟩
    replace H : (if (strOfNums y119).size + x3_1.size ≤ 9223372036854775807 then (spec_Numeral.l0 k1 (wrap64 (Int.tdiv x0_1 10)) ((strOfNums y119) ++ x3_1)) else (none)) = some r := by first | (rw [hy119]; with_reducible exact H) | (have H2_ := (Option.bind_some _ _).symm.trans H; rw [hy119]; with_reducible exact H2_) | (have H2_ := (Option.bind_some _ _).symm.trans H; with_reducible exact H2_) | with_reducible exact H | (rw [hy119]; exact H) | exact H
    have Ny119 := Aside0.mk hy119
    clear hy119
    by_cases c6 : (strOfNums y119).size + x3_1.size ≤ 9223372036854775807
    ·rw [if_pos c6] at H
     have c6b0 := eq_true c6
     have c6b1 : decide ((strOfNums y119).size + x3_1.size ≤ 9223372036854775807) = true := decide_eq_true c6
     try have c6b2 : (9223372036854775807 < (strOfNums y119).size + x3_1.size) = False := eq_false (Nat.not_lt.2 c6)
     have H' := Aside0.mk H
     clear H
     go_wp2_with (first | ((with_reducible refine gate_dst (N := 18) rfl ?_); refine Kd.R_lit (Kd.int .u8) _ 5 ?hg (N := 18) ?hd (xs := ([(wrap64 (48 + (Int.tmod (wrap64 (Int.tdiv x0_1 10)) 10))) % 256] : List Int)) (inner := [.int .u8 ((wrap64 (48 + (Int.tmod (wrap64 (Int.tdiv x0_1 10)) 10))) % 256)]) (ok := fun _ => True) (okp := fun _ => True) ?hr ?hp (fun _ hk => hk) trivial (Below.refl _ _) (Nat.le_refl _) (by simp) ?_; (case hd => rfl); (case hg => rfl); (case hr => first | (go_simp; done) | (go_simp; rfl)); (case hp => exact (Reps.one (show Kd.M (Kd.int .u8) _ _ _ ((wrap64 (48 + (Int.tmod (wrap64 (Int.tdiv x0_1 10)) 10))) % 256) [.int .u8 ((wrap64 (48 + (Int.tmod (wrap64 (Int.tdiv x0_1 10)) 10))) % 256)] from rfl) (Reps.none _ _))); intro v120 w7 ho8 hb hg_ hnew_; clear hg_ hnew_; (first | rw [← Ny119.out] at ho8 | (simp only [Int.reduceToNat] at ho8; rw [← Ny119.out] at ho8)); have n0_ := Aside0.mk (Kd.R_lower ho8 (below_size (by repeat (first | (with_reducible first | exact HB.out | apply below_alloc | apply pw_below_drewN | apply below_drew1) | exact HB.out)))); have n1_ := Aside0.mk (below_step (by repeat (first | (with_reducible first | exact HB.out | apply below_alloc | apply pw_below_drewN | apply below_drew1) | exact HB.out)) hb); clear HB; have HO121 := n0_; have HB := n1_; clear n0_ n1_; clear hb ho8; have hcv9 := own_string (P := Tryz.prog) Tryz.underlying121 Tryz.underlying5 Tryz.underlying9 (Kd.own_of_R HO121.out)))
     go_roundg k1
     case measure => have := HK1.out; omega
     case rel => exact ⟨(wrap64 (Int.tdiv x0_1 10)), ((strOfNums y119) ++ x3_1), orf, orf, H', ⟨by have := HK1.out; omega⟩, ⟨by repeat (first | (with_reducible first | exact HB.out | apply below_alloc | apply pw_below_drewN | apply below_drew1) | exact HB.out)⟩⟩
    ·rw [if_neg c6] at H
     exact absurd H (by simp)
   ·rw [if_neg c5] at H
    have c5b0 : decide (10 ≤ x0_1) = false := decide_eq_false c5
    clear c5
    obtain rfl := Option.some.inj H
    go_wp2
    go_ret
    exact ⟨by first | rfl | (simp [errW_none, errW_some] <;> rfl) | (simp [*, errW_none, errW_some] <;> rfl), by repeat (first | (with_reducible first | exact HB.out | apply below_alloc | apply pw_below_drewN | apply below_drew1) | exact HB.out)⟩

/-! ### spec_Valued: function 49 -/
def spec_Valued.l0 : Nat → ByteArray → Int → Option (Bool)
 | 0, _, _ => none
 | k + 1, x0, x3 => if x3 < (x0.size : Int) then (if 0 ≤ x3 then (if (bt x0 x3) < 32 then (some false) else (if (bt x0 x3) > 126 then (some false) else (if (bt x0 x3) = 35 then (some false) else (if (bt x0 x3) = 59 then (some false) else (if (bt x0 x3) = 92 then (some false) else (spec_Valued.l0 k x0 (wrap64 (x3 + 1)))))))) else (none)) else (if x0.toList = ([] : List UInt8) then (some false) else (if (x0.size : Int) ≤ 80 then (if 0 < (x0.size : Int) then (if (bt x0 0) = 32 then (some false) else (if 0 ≤ (wrap64 ((x0.size : Int) - 1)) then (if (wrap64 ((x0.size : Int) - 1)) < (x0.size : Int) then (some ((bt x0 (wrap64 ((x0.size : Int) - 1))) != 32)) else (none)) else (none))) else (none)) else (some false)))
def spec_Valued.f (k : Nat) (a0 : ByteArray) : Option (Bool) := spec_Valued.l0 k a0 0
theorem spec_Valued.mono_l : ∀ k, (∀ y0 y1, LeO (spec_Valued.l0 k y0 y1) (spec_Valued.l0 (k + 1) y0 y1))
 | 0 => fun _ _ r h => by simp [spec_Valued.l0] at h
 | k + 1 => by
  have ih0 := spec_Valued.mono_l k
  ·intro y0 y1
   unfold spec_Valued.l0
   repeat' first
   | (with_reducible exact ih0 _ _)
   | (with_reducible exact LeO.refl _)
   | (with_reducible exact LeO.none _)
   | (with_reducible refine LeO.ite ?_ ?_)
   | (with_reducible refine LeO.bind ?_ (fun _ => ?_))
   | exact ih0 _ _
   | exact LeO.none _
   | refine LeO.ite ?_ ?_
   | refine LeO.bind ?_ (fun _ => ?_)
theorem spec_Valued.mono : ∀ a0 k, LeO (spec_Valued.f k a0) (spec_Valued.f (k + 1) a0) := by
 intro a0 k
 have ih0 := spec_Valued.mono_l k
 unfold spec_Valued.f
 repeat' first
   | (with_reducible exact ih0 _ _)
   | (with_reducible exact LeO.refl _)
   | (with_reducible exact LeO.none _)
   | (with_reducible refine LeO.ite ?_ ?_)
   | (with_reducible refine LeO.bind ?_ (fun _ => ?_))
   | exact ih0 _ _
   | exact LeO.none _
   | refine LeO.ite ?_ ?_
   | refine LeO.bind ?_ (fun _ => ?_)
set_option maxHeartbeats 8000000 in
set_option maxRecDepth 100000 in
theorem spec_Valued.calls (k : Nat) (a0 : ByteArray) (r : Bool) (w : World) (h : spec_Valued.f k a0 = some r) :
  Calls Tryz.prog 49 #[.string a0] w fun e w' => e = .returned (.bool r) ∧ Drawn0 w w' := by
 have H : (spec_Valued.l0 k a0 0) = some r := h
 clear h
 have H' := Aside0.mk H
 clear H
 go_enter Tryz.func49, Tryz.ntmps49
 go_wp2
 go_loopg [3] k (fun kq v3 w' => ∃ (x3_1 : Int), v3 = .int .i64 x3_1 ∧ Aside0 (spec_Valued.l0 kq a0 x3_1 = some r) ∧ Aside0 (kq ≤ k) ∧ Drawn0 w w')
 case atStart => exact ⟨(0), orf, H', ⟨Nat.le_refl _⟩, by repeat (first | exact Drawn0.refl _ | apply Drawn0.step)⟩
 case round =>
  clear H'
  obtain ⟨x3_1, rfl, HA, HK1, ⟨m1, rfl⟩⟩ := hrel
  cases gk with
  | zero => exact absurd HA.out (by simp [spec_Valued.l0])
  | succ k1 =>
   have H := HA.out
   clear HA
   simp only [spec_Valued.l0] at H
   by_cases c2 : x3_1 < (a0.size : Int)
   ·rw [if_pos c2] at H
    have c2b0 : decide (x3_1 < (a0.size : Int)) = true := decide_eq_true c2
    clear c2
    by_cases c3 : 0 ≤ x3_1
    ·rw [if_pos c3] at H
     have c3b0 : decide (0 ≤ x3_1) = true := decide_eq_true c3
     clear c3
     by_cases c5 : (bt a0 x3_1) < 32
     ·rw [if_pos c5] at H
      have c5b0 : decide ((bt a0 x3_1) < 32) = true := decide_eq_true c5
      clear c5
      obtain rfl := Option.some.inj H
      have p4 : 0 ≤ (x3_1 : Int) := odt
      have q4 : x3_1 < (a0.size : Int) := odt
      have hx4 := bt_at a0 x3_1
      replace p4 := eq_true p4
      replace q4 := eq_true q4
      go_wp2
      go_ret
      exact ⟨by first | rfl | (simp; done) | (simp [*]; done), by repeat (first | exact Drawn0.refl _ | apply Drawn0.step)⟩
     ·rw [if_neg c5] at H
      have c5b0 : decide ((bt a0 x3_1) < 32) = false := decide_eq_false c5
      clear c5
      by_cases c7 : (bt a0 x3_1) > 126
      ·rw [if_pos c7] at H
       have c7b0 : decide (126 < (bt a0 x3_1)) = true := decide_eq_true c7
       clear c7
       obtain rfl := Option.some.inj H
       have p4 : 0 ≤ (x3_1 : Int) := odt
       have q4 : x3_1 < (a0.size : Int) := odt
       have hx4 := bt_at a0 x3_1
       replace p4 := eq_true p4
       replace q4 := eq_true q4
       have p6 : 0 ≤ (x3_1 : Int) := odt
       have q6 : x3_1 < (a0.size : Int) := odt
       have hx6 := bt_at a0 x3_1
       replace p6 := eq_true p6
       replace q6 := eq_true q6
       go_wp2
       go_ret
       exact ⟨by first | rfl | (simp; done) | (simp [*]; done), by repeat (first | exact Drawn0.refl _ | apply Drawn0.step)⟩
      ·rw [if_neg c7] at H
       have c7b0 : decide (126 < (bt a0 x3_1)) = false := decide_eq_false c7
       clear c7
       by_cases c9 : (bt a0 x3_1) = 35
       ·rw [if_pos c9] at H
        have c9b0 : ((bt a0 x3_1) == 35) = true := beq_iff_eq.mpr c9
        have c9b1 : ((bt a0 x3_1) != 35) = false := bne_eq_false_iff_eq.mpr c9
        clear c9
        obtain rfl := Option.some.inj H
        have p4 : 0 ≤ (x3_1 : Int) := odt
        have q4 : x3_1 < (a0.size : Int) := odt
        have hx4 := bt_at a0 x3_1
        replace p4 := eq_true p4
        replace q4 := eq_true q4
        have p6 : 0 ≤ (x3_1 : Int) := odt
        have q6 : x3_1 < (a0.size : Int) := odt
        have hx6 := bt_at a0 x3_1
        replace p6 := eq_true p6
        replace q6 := eq_true q6
        have p8 : 0 ≤ (x3_1 : Int) := odt
        have q8 : x3_1 < (a0.size : Int) := odt
        have hx8 := bt_at a0 x3_1
        replace p8 := eq_true p8
        replace q8 := eq_true q8
        go_wp2
        go_ret
        exact ⟨by first | rfl | (simp; done) | (simp [*]; done), by repeat (first | exact Drawn0.refl _ | apply Drawn0.step)⟩
       ·rw [if_neg c9] at H
        have c9b0 : ((bt a0 x3_1) == 35) = false := beq_eq_false_iff_ne.mpr c9
        have c9b1 : ((bt a0 x3_1) != 35) = true := bne_iff_ne.mpr c9
        by_cases c11 : (bt a0 x3_1) = 59
        ·rw [if_pos c11] at H
         have c11b0 : ((bt a0 x3_1) == 59) = true := beq_iff_eq.mpr c11
         have c11b1 : ((bt a0 x3_1) != 59) = false := bne_eq_false_iff_eq.mpr c11
         clear c11
         obtain rfl := Option.some.inj H
         have p4 : 0 ≤ (x3_1 : Int) := odt
         have q4 : x3_1 < (a0.size : Int) := odt
         have hx4 := bt_at a0 x3_1
         replace p4 := eq_true p4
         replace q4 := eq_true q4
         have p6 : 0 ≤ (x3_1 : Int) := odt
         have q6 : x3_1 < (a0.size : Int) := odt
         have hx6 := bt_at a0 x3_1
         replace p6 := eq_true p6
         replace q6 := eq_true q6
         have p8 : 0 ≤ (x3_1 : Int) := odt
         have q8 : x3_1 < (a0.size : Int) := odt
         have hx8 := bt_at a0 x3_1
         replace p8 := eq_true p8
         replace q8 := eq_true q8
         have p10 : 0 ≤ (x3_1 : Int) := odt
         have q10 : x3_1 < (a0.size : Int) := odt
         have hx10 := bt_at a0 x3_1
         replace p10 := eq_true p10
         replace q10 := eq_true q10
         go_wp2
         go_ret
         exact ⟨by first | rfl | (simp; done) | (simp [*]; done), by repeat (first | exact Drawn0.refl _ | apply Drawn0.step)⟩
        ·rw [if_neg c11] at H
         have c11b0 : ((bt a0 x3_1) == 59) = false := beq_eq_false_iff_ne.mpr c11
         have c11b1 : ((bt a0 x3_1) != 59) = true := bne_iff_ne.mpr c11
         by_cases c13 : (bt a0 x3_1) = 92
         ·rw [if_pos c13] at H
          have c13b0 : ((bt a0 x3_1) == 92) = true := beq_iff_eq.mpr c13
          have c13b1 : ((bt a0 x3_1) != 92) = false := bne_eq_false_iff_eq.mpr c13
          clear c13
          obtain rfl := Option.some.inj H
          have p4 : 0 ≤ (x3_1 : Int) := odt
          have q4 : x3_1 < (a0.size : Int) := odt
          have hx4 := bt_at a0 x3_1
          replace p4 := eq_true p4
          replace q4 := eq_true q4
          have p6 : 0 ≤ (x3_1 : Int) := odt
          have q6 : x3_1 < (a0.size : Int) := odt
          have hx6 := bt_at a0 x3_1
          replace p6 := eq_true p6
          replace q6 := eq_true q6
          have p8 : 0 ≤ (x3_1 : Int) := odt
          have q8 : x3_1 < (a0.size : Int) := odt
          have hx8 := bt_at a0 x3_1
          replace p8 := eq_true p8
          replace q8 := eq_true q8
          have p10 : 0 ≤ (x3_1 : Int) := odt
          have q10 : x3_1 < (a0.size : Int) := odt
          have hx10 := bt_at a0 x3_1
          replace p10 := eq_true p10
          replace q10 := eq_true q10
          have p12 : 0 ≤ (x3_1 : Int) := odt
          have q12 : x3_1 < (a0.size : Int) := odt
          have hx12 := bt_at a0 x3_1
          replace p12 := eq_true p12
          replace q12 := eq_true q12
          go_wp2
          go_ret
          exact ⟨by first | rfl | (simp; done) | (simp [*]; done), by repeat (first | exact Drawn0.refl _ | apply Drawn0.step)⟩
         ·rw [if_neg c13] at H
          have c13b0 : ((bt a0 x3_1) == 92) = false := beq_eq_false_iff_ne.mpr c13
          have c13b1 : ((bt a0 x3_1) != 92) = true := bne_iff_ne.mpr c13
          have H' := Aside0.mk H
          clear H
          have p4 : 0 ≤ (x3_1 : Int) := odt
          have q4 : x3_1 < (a0.size : Int) := odt
          have hx4 := bt_at a0 x3_1
          replace p4 := eq_true p4
          replace q4 := eq_true q4
          have p6 : 0 ≤ (x3_1 : Int) := odt
          have q6 : x3_1 < (a0.size : Int) := odt
          have hx6 := bt_at a0 x3_1
          replace p6 := eq_true p6
          replace q6 := eq_true q6
          have p8 : 0 ≤ (x3_1 : Int) := odt
          have q8 : x3_1 < (a0.size : Int) := odt
          have hx8 := bt_at a0 x3_1
          replace p8 := eq_true p8
          replace q8 := eq_true q8
          have p10 : 0 ≤ (x3_1 : Int) := odt
          have q10 : x3_1 < (a0.size : Int) := odt
          have hx10 := bt_at a0 x3_1
          replace p10 := eq_true p10
          replace q10 := eq_true q10
          have p12 : 0 ≤ (x3_1 : Int) := odt
          have q12 : x3_1 < (a0.size : Int) := odt
          have hx12 := bt_at a0 x3_1
          replace p12 := eq_true p12
          replace q12 := eq_true q12
          go_wp2
          go_roundg k1
          case measure => have := HK1.out; omega
          case rel => exact ⟨(wrap64 (x3_1 + 1)), orf, H', ⟨by have := HK1.out; omega⟩, by repeat (first | exact Drawn0.refl _ | apply Drawn0.step)⟩
    ·rw [if_neg c3] at H
     exact absurd H (by simp)
   ·rw [if_neg c2] at H
    have c2b0 : decide (x3_1 < (a0.size : Int)) = false := decide_eq_false c2
    clear c2
    by_cases c14 : a0.toList = ([] : List UInt8)
    ·rw [if_pos c14] at H
     have c14b0 : (a0.toList == ([] : List UInt8)) = true := beq_iff_eq.mpr c14
     have c14b9 : a0.toList.isEmpty = true := by rw [c14]; rfl
     have c14b1 : (a0.toList != ([] : List UInt8)) = false := bne_eq_false_iff_eq.mpr c14
     clear c14
     obtain rfl := Option.some.inj H
     go_wp2
     go_ret
     exact ⟨by first | rfl | (simp; done) | (simp [*]; done), by repeat (first | exact Drawn0.refl _ | apply Drawn0.step)⟩
    ·rw [if_neg c14] at H
     have c14b0 : (a0.toList == ([] : List UInt8)) = false := beq_eq_false_iff_ne.mpr c14
     have c14b9 : a0.toList.isEmpty = false := isEmpty_no_ c14
     have c14b1 : (a0.toList != ([] : List UInt8)) = true := bne_iff_ne.mpr c14
     by_cases c15 : (a0.size : Int) ≤ 80
     ·rw [if_pos c15] at H
      have c15b0 : decide ((a0.size : Int) ≤ 80) = true := decide_eq_true c15
      have c15b1 : decide (a0.size ≤ 80) = true := decide_eq_true (by omega)
      clear c15
      by_cases c16 : 0 < (a0.size : Int)
      ·rw [if_pos c16] at H
       have c16b0 : decide (0 < (a0.size : Int)) = true := decide_eq_true c16
       have c16b1 : decide (0 < a0.size) = true := decide_eq_true (by omega)
       clear c16
       by_cases c18 : (bt a0 0) = 32
       ·rw [if_pos c18] at H
        have c18b0 : ((bt a0 0) == 32) = true := beq_iff_eq.mpr c18
        have c18b1 : ((bt a0 0) != 32) = false := bne_eq_false_iff_eq.mpr c18
        clear c18
        obtain rfl := Option.some.inj H
        have p17 : 0 ≤ (0 : Int) := (by omega)
        have q17 : 0 < a0.size := (by have : (0 : Int) < (a0.size : Int) := odt; omega)
        have hx17 : ∀ h : 0 < a0.size, ((a0[0]'h).toNat : Int) = bt a0 0 := bt_at a0 0
        clear p17
        have qi17 : (0 < (a0.size : Int)) = True := eq_true (odt)
        replace q17 := eq_true q17
        go_wp2
        go_ret
        exact ⟨by first | rfl | (simp; done) | (simp [*]; done), by repeat (first | exact Drawn0.refl _ | apply Drawn0.step)⟩
       ·rw [if_neg c18] at H
        have c18b0 : ((bt a0 0) == 32) = false := beq_eq_false_iff_ne.mpr c18
        have c18b1 : ((bt a0 0) != 32) = true := bne_iff_ne.mpr c18
        obtain ⟨ji19, hji19⟩ : ∃ j_ : Int, (wrap64 ((a0.size : Int) - 1)) = j_ := ⟨_, rfl⟩
        replace H : (if 0 ≤ (ji19) then (if (ji19) < (a0.size : Int) then (some ((bt a0 (ji19)) != 32)) else (none)) else (none)) = some r := by first | (rw [hji19] at H; exact H) | (simp only [hji19] at H ⊢; exact H)
        have hji19w : (IntKind.i64.wrap ((a0.size : Int) - 1)) = ji19 := (i64_w _).trans hji19
        by_cases c20 : 0 ≤ (ji19)
        ·rw [if_pos c20] at H
         have c20b0 : decide (0 ≤ (ji19)) = true := decide_eq_true c20
         clear c20
         by_cases c21 : (ji19) < (a0.size : Int)
         ·rw [if_pos c21] at H
          have c21b0 : decide ((ji19) < (a0.size : Int)) = true := decide_eq_true c21
          clear c21
          obtain rfl := Option.some.inj H
          have p17 : 0 ≤ (0 : Int) := (by omega)
          have q17 : 0 < a0.size := (by have : (0 : Int) < (a0.size : Int) := odt; omega)
          have hx17 : ∀ h : 0 < a0.size, ((a0[0]'h).toNat : Int) = bt a0 0 := bt_at a0 0
          clear p17
          have qi17 : (0 < (a0.size : Int)) = True := eq_true (odt)
          replace q17 := eq_true q17
          have p22 : 0 ≤ ((ji19) : Int) := odt
          have q22 : (ji19) < (a0.size : Int) := odt
          have hx22 := bt_at a0 (ji19)
          replace p22 := eq_true p22
          replace q22 := eq_true q22
          go_wp2
          go_ret
          exact ⟨by first | rfl | (simp; done) | (simp only [← hji19] <;> (first | rfl | simp)) | (simp [*]; done), by repeat (first | exact Drawn0.refl _ | apply Drawn0.step)⟩
         ·rw [if_neg c21] at H
          exact absurd H (by simp)
        ·rw [if_neg c20] at H
         exact absurd H (by simp)
      ·rw [if_neg c16] at H
       exact absurd H (by simp)
     ·rw [if_neg c15] at H
      have c15b0 : decide ((a0.size : Int) ≤ 80) = false := decide_eq_false c15
      have c15b1 : decide (a0.size ≤ 80) = false := decide_eq_false (by omega)
      clear c15
      obtain rfl := Option.some.inj H
      go_wp2
      go_ret
      exact ⟨by first | rfl | (simp; done) | (simp [*]; done), by repeat (first | exact Drawn0.refl _ | apply Drawn0.step)⟩

end Go.Proofs.YtjglpjlbnmpdfaaGreatDoor.PFnModelAdd
