/- The machine side of laws.FnModelAdd: each function of this text answers what its Lean function answers (written for this claim by a program of this session over the kit's print; no condition beyond what each theorem says). -/
import Derived.Test.YtjglpjlbnmpdfaaGreatDoorOFnModelAddx0
namespace Go.Proofs.YtjglpjlbnmpdfaaGreatDoor.PFnModelAdd
open Go.RowKit Go.Proofs.YtjglpjlbnmpdfaaGreatDoorW.PrintWords Go.Proofs.YtjglpjlbnmpdfaaGreatDoorW.PrintLast Go.Proofs.YtjglpjlbnmpdfaaGreatDoorW.PrintMore
attribute [local go_sem] max2_int min2_int max_two min_two max_three min_three max_four min_four   -- for this text's walks alone
set_option linter.unusedVariables false
set_option linter.unusedSimpArgs false

/-! ### laws_zzFits20: function 22 -/
def laws_zzFits20.f (a0_0 : ByteArray) (a0_1 : ByteArray) (a0_2 : ByteArray) : Option (Bool) := if (a0_0.size : Int) > 2147483647 then (some false) else (if (a0_1.size : Int) > 2147483647 then (some false) else (if (a0_2.size : Int) > 2147483647 then (some false) else (some true)))
set_option maxHeartbeats 8000000 in
set_option maxRecDepth 100000 in
theorem laws_zzFits20.calls (a0_0 : ByteArray) (a0_1 : ByteArray) (a0_2 : ByteArray) (r : Bool) (w : World) (h : laws_zzFits20.f a0_0 a0_1 a0_2 = some r) :
  Calls Tryz.prog 22 #[.agg #[.string a0_0, .string a0_1, .string a0_2]] w fun e w' => e = .returned (.bool r) ∧ Below w.heap.size w w' := by
 have hu28 := Tryz.underlying28
 have HB := Aside0.mk (Below.refl w.heap.size w)
 have H : (if (a0_0.size : Int) > 2147483647 then (some false) else (if (a0_1.size : Int) > 2147483647 then (some false) else (if (a0_2.size : Int) > 2147483647 then (some false) else (some true)))) = some r := h
 clear h
 by_cases c2 : (a0_0.size : Int) > 2147483647
 ·rw [if_pos c2] at H
  have c2b0 : decide (2147483647 < (a0_0.size : Int)) = true := decide_eq_true c2
  have c2b1 : decide (2147483647 < a0_0.size) = true := decide_eq_true (by omega)
  clear c2
  obtain rfl := Option.some.inj H
  go_enter Tryz.func22, Tryz.ntmps22
  go_wp2_with (first | ((with_reducible refine gate_dst (N := 1) rfl ?_); refine box_event ?hg (N := 1) ?hd (cs := #[.string a0_0, .string a0_1, .string a0_2]) (t := 28) ?hr ?_; (case hd => rfl); (case hg => rfl); (case hr => first | (go_simp; done) | (go_simp; rfl)); intro gb101 hg w3 hbox hb; have n0_ := Aside0.mk (below_step (by repeat (first | (with_reducible first | exact HB.out | apply below_alloc | apply pw_below_drewN | apply below_drew1) | exact HB.out)) hb); have n1_ := Aside0.mk (hbox); have n2_ := Aside0.mk ((by rw [hg]; exact (below_size (by repeat (first | (with_reducible first | exact HB.out | apply below_alloc | apply pw_below_drewN | apply below_drew1) | exact HB.out))) : w.heap.size ≤ gb101)); have n3_ := Aside0.mk ((by rw [hg]; exact (below_size (by repeat (first | (with_reducible first | exact HB.out | apply below_alloc | apply pw_below_drewN | apply below_drew1) | exact HB.out))) : w.heap.size ≤ gb101)); clear HB; have HB := n0_; have BK101 := n1_; have GW101 := n2_; have GE101 := n3_; clear n0_ n1_ n2_ n3_; clear hb hbox hg; have hcz4_0 : w3.cell? ⟨gb101, 0, none⟩ = some (.string a0_0) := (blk_cell BK101.out 0).trans rfl; have hcz4_1 : w3.cell? ⟨gb101, 1, none⟩ = some (.string a0_1) := (blk_cell BK101.out 1).trans rfl; have hcz4_2 : w3.cell? ⟨gb101, 2, none⟩ = some (.string a0_2) := (blk_cell BK101.out 2).trans rfl; have hfz4_0 := blk_frozen BK101.out 0; have hfz4_1 := blk_frozen BK101.out 1; have hfz4_2 := blk_frozen BK101.out 2))
  go_ret
  exact ⟨by first | rfl | (simp [errW_none, errW_some] <;> rfl) | (simp [*, errW_none, errW_some] <;> rfl), by repeat (first | (with_reducible first | exact HB.out | apply below_alloc | apply pw_below_drewN | apply below_drew1 | refine below_set ?_ GE101.out) | exact HB.out)⟩
 ·rw [if_neg c2] at H
  have c2b0 : decide (2147483647 < (a0_0.size : Int)) = false := decide_eq_false c2
  have c2b1 : decide (2147483647 < a0_0.size) = false := decide_eq_false (by omega)
  clear c2
  by_cases c5 : (a0_1.size : Int) > 2147483647
  ·rw [if_pos c5] at H
   have c5b0 : decide (2147483647 < (a0_1.size : Int)) = true := decide_eq_true c5
   have c5b1 : decide (2147483647 < a0_1.size) = true := decide_eq_true (by omega)
   clear c5
   obtain rfl := Option.some.inj H
   go_enter Tryz.func22, Tryz.ntmps22
   go_wp2_with (first | ((with_reducible refine gate_dst (N := 1) rfl ?_); refine box_event ?hg (N := 1) ?hd (cs := #[.string a0_0, .string a0_1, .string a0_2]) (t := 28) ?hr ?_; (case hd => rfl); (case hg => rfl); (case hr => first | (go_simp; done) | (go_simp; rfl)); intro gb101 hg w6 hbox hb; have n0_ := Aside0.mk (below_step (by repeat (first | (with_reducible first | exact HB.out | apply below_alloc | apply pw_below_drewN | apply below_drew1) | exact HB.out)) hb); have n1_ := Aside0.mk (hbox); have n2_ := Aside0.mk ((by rw [hg]; exact (below_size (by repeat (first | (with_reducible first | exact HB.out | apply below_alloc | apply pw_below_drewN | apply below_drew1) | exact HB.out))) : w.heap.size ≤ gb101)); have n3_ := Aside0.mk ((by rw [hg]; exact (below_size (by repeat (first | (with_reducible first | exact HB.out | apply below_alloc | apply pw_below_drewN | apply below_drew1) | exact HB.out))) : w.heap.size ≤ gb101)); clear HB; have HB := n0_; have BK101 := n1_; have GW101 := n2_; have GE101 := n3_; clear n0_ n1_ n2_ n3_; clear hb hbox hg; have hcz7_0 : w6.cell? ⟨gb101, 0, none⟩ = some (.string a0_0) := (blk_cell BK101.out 0).trans rfl; have hcz7_1 : w6.cell? ⟨gb101, 1, none⟩ = some (.string a0_1) := (blk_cell BK101.out 1).trans rfl; have hcz7_2 : w6.cell? ⟨gb101, 2, none⟩ = some (.string a0_2) := (blk_cell BK101.out 2).trans rfl; have hfz7_0 := blk_frozen BK101.out 0; have hfz7_1 := blk_frozen BK101.out 1; have hfz7_2 := blk_frozen BK101.out 2))
   go_ret
   exact ⟨by first | rfl | (simp [errW_none, errW_some] <;> rfl) | (simp [*, errW_none, errW_some] <;> rfl), by repeat (first | (with_reducible first | exact HB.out | apply below_alloc | apply pw_below_drewN | apply below_drew1 | refine below_set ?_ GE101.out) | exact HB.out)⟩
  ·rw [if_neg c5] at H
   have c5b0 : decide (2147483647 < (a0_1.size : Int)) = false := decide_eq_false c5
   have c5b1 : decide (2147483647 < a0_1.size) = false := decide_eq_false (by omega)
   clear c5
   by_cases c8 : (a0_2.size : Int) > 2147483647
   ·rw [if_pos c8] at H
    have c8b0 : decide (2147483647 < (a0_2.size : Int)) = true := decide_eq_true c8
    have c8b1 : decide (2147483647 < a0_2.size) = true := decide_eq_true (by omega)
    clear c8
    obtain rfl := Option.some.inj H
    go_enter Tryz.func22, Tryz.ntmps22
    go_wp2_with (first | ((with_reducible refine gate_dst (N := 1) rfl ?_); refine box_event ?hg (N := 1) ?hd (cs := #[.string a0_0, .string a0_1, .string a0_2]) (t := 28) ?hr ?_; (case hd => rfl); (case hg => rfl); (case hr => first | (go_simp; done) | (go_simp; rfl)); intro gb101 hg w9 hbox hb; have n0_ := Aside0.mk (below_step (by repeat (first | (with_reducible first | exact HB.out | apply below_alloc | apply pw_below_drewN | apply below_drew1) | exact HB.out)) hb); have n1_ := Aside0.mk (hbox); have n2_ := Aside0.mk ((by rw [hg]; exact (below_size (by repeat (first | (with_reducible first | exact HB.out | apply below_alloc | apply pw_below_drewN | apply below_drew1) | exact HB.out))) : w.heap.size ≤ gb101)); have n3_ := Aside0.mk ((by rw [hg]; exact (below_size (by repeat (first | (with_reducible first | exact HB.out | apply below_alloc | apply pw_below_drewN | apply below_drew1) | exact HB.out))) : w.heap.size ≤ gb101)); clear HB; have HB := n0_; have BK101 := n1_; have GW101 := n2_; have GE101 := n3_; clear n0_ n1_ n2_ n3_; clear hb hbox hg; have hcz10_0 : w9.cell? ⟨gb101, 0, none⟩ = some (.string a0_0) := (blk_cell BK101.out 0).trans rfl; have hcz10_1 : w9.cell? ⟨gb101, 1, none⟩ = some (.string a0_1) := (blk_cell BK101.out 1).trans rfl; have hcz10_2 : w9.cell? ⟨gb101, 2, none⟩ = some (.string a0_2) := (blk_cell BK101.out 2).trans rfl; have hfz10_0 := blk_frozen BK101.out 0; have hfz10_1 := blk_frozen BK101.out 1; have hfz10_2 := blk_frozen BK101.out 2))
    go_ret
    exact ⟨by first | rfl | (simp [errW_none, errW_some] <;> rfl) | (simp [*, errW_none, errW_some] <;> rfl), by repeat (first | (with_reducible first | exact HB.out | apply below_alloc | apply pw_below_drewN | apply below_drew1 | refine below_set ?_ GE101.out) | exact HB.out)⟩
   ·rw [if_neg c8] at H
    have c8b0 : decide (2147483647 < (a0_2.size : Int)) = false := decide_eq_false c8
    have c8b1 : decide (2147483647 < a0_2.size) = false := decide_eq_false (by omega)
    clear c8
    obtain rfl := Option.some.inj H
    go_enter Tryz.func22, Tryz.ntmps22
    go_wp2_with (first | ((with_reducible refine gate_dst (N := 1) rfl ?_); refine box_event ?hg (N := 1) ?hd (cs := #[.string a0_0, .string a0_1, .string a0_2]) (t := 28) ?hr ?_; (case hd => rfl); (case hg => rfl); (case hr => first | (go_simp; done) | (go_simp; rfl)); intro gb101 hg w11 hbox hb; have n0_ := Aside0.mk (below_step (by repeat (first | (with_reducible first | exact HB.out | apply below_alloc | apply pw_below_drewN | apply below_drew1) | exact HB.out)) hb); have n1_ := Aside0.mk (hbox); have n2_ := Aside0.mk ((by rw [hg]; exact (below_size (by repeat (first | (with_reducible first | exact HB.out | apply below_alloc | apply pw_below_drewN | apply below_drew1) | exact HB.out))) : w.heap.size ≤ gb101)); have n3_ := Aside0.mk ((by rw [hg]; exact (below_size (by repeat (first | (with_reducible first | exact HB.out | apply below_alloc | apply pw_below_drewN | apply below_drew1) | exact HB.out))) : w.heap.size ≤ gb101)); clear HB; have HB := n0_; have BK101 := n1_; have GW101 := n2_; have GE101 := n3_; clear n0_ n1_ n2_ n3_; clear hb hbox hg; have hcz12_0 : w11.cell? ⟨gb101, 0, none⟩ = some (.string a0_0) := (blk_cell BK101.out 0).trans rfl; have hcz12_1 : w11.cell? ⟨gb101, 1, none⟩ = some (.string a0_1) := (blk_cell BK101.out 1).trans rfl; have hcz12_2 : w11.cell? ⟨gb101, 2, none⟩ = some (.string a0_2) := (blk_cell BK101.out 2).trans rfl; have hfz12_0 := blk_frozen BK101.out 0; have hfz12_1 := blk_frozen BK101.out 1; have hfz12_2 := blk_frozen BK101.out 2))
    go_ret
    exact ⟨by first | rfl | (simp [errW_none, errW_some] <;> rfl) | (simp [*, errW_none, errW_some] <;> rfl), by repeat (first | (with_reducible first | exact HB.out | apply below_alloc | apply pw_below_drewN | apply below_drew1 | refine below_set ?_ GE101.out) | exact HB.out)⟩

/-! ### laws_zzFits19: function 8 -/
def laws_zzFits19.l0 : Nat → List (S28) → Int → Int → Option (Bool)
 | 0, _, _, _ => none
 | k + 1, x8, x9, x10 => if x10 < x9 then (if 0 ≤ x10 then (if x10 < (x8.length : Int) then ((laws_zzFits20.f ((rd_T28 x8 x10).f0) ((rd_T28 x8 x10).f1) ((rd_T28 x8 x10).f2)).bind fun t104 => (if t104 = true then (laws_zzFits19.l0 k x8 x9 (wrap64 (x10 + 1))) else (some false))) else (none)) else (none)) else (some true)
def laws_zzFits19.f (k : Nat) (l0 : List (S28)) : Option (Bool) := if (l0.length : Int) > 2147483647 then (some false) else (laws_zzFits19.l0 k l0 (l0.length : Int) 0)
theorem laws_zzFits19.mono_l : ∀ k, (∀ y0 y1 y2, LeO (laws_zzFits19.l0 k y0 y1 y2) (laws_zzFits19.l0 (k + 1) y0 y1 y2))
 | 0 => fun _ _ _ r h => by simp [laws_zzFits19.l0] at h
 | k + 1 => by
  have ih0 := laws_zzFits19.mono_l k
  ·intro y0 y1 y2
   unfold laws_zzFits19.l0
   repeat' first
   | (with_reducible exact ih0 _ _ _)
   | (with_reducible exact LeO.refl _)
   | (with_reducible exact LeO.none _)
   | (with_reducible refine LeO.ite ?_ ?_)
   | (with_reducible refine LeO.bind ?_ (fun _ => ?_))
   | exact ih0 _ _ _
   | exact LeO.none _
   | refine LeO.ite ?_ ?_
   | refine LeO.bind ?_ (fun _ => ?_)
theorem laws_zzFits19.mono : ∀ a0 k, LeO (laws_zzFits19.f k a0) (laws_zzFits19.f (k + 1) a0) := by
 intro a0 k
 have ih0 := laws_zzFits19.mono_l k
 unfold laws_zzFits19.f
 repeat' first
   | (with_reducible exact ih0 _ _ _)
   | (with_reducible exact LeO.refl _)
   | (with_reducible exact LeO.none _)
   | (with_reducible refine LeO.ite ?_ ?_)
   | (with_reducible refine LeO.bind ?_ (fun _ => ?_))
   | exact ih0 _ _ _
   | exact LeO.none _
   | refine LeO.ite ?_ ?_
   | refine LeO.bind ?_ (fun _ => ?_)
set_option maxHeartbeats 8000000 in
set_option maxRecDepth 100000 in
theorem laws_zzFits19.calls (k : Nat) (A0 : Option Addr) (c0 : Nat) (l0 : List (S28)) (r : Bool) (w : World) (hr0 : Kd.C k28 w A0 l0.length l0) (hc0 : l0.length ≤ c0) (h : laws_zzFits19.f k l0 = some r) :
  Calls Tryz.prog 8 #[.slice A0 l0.length c0] w fun e w' => e = .returned (.bool r) ∧ Below w.heap.size w w' := by
 have hu28 := Tryz.underlying28
 have HR0 := Aside0.mk hr0
 have HC0 := Aside0.mk hc0
 clear hr0 hc0
 have HB := Aside0.mk (Below.refl w.heap.size w)
 have H : (if (l0.length : Int) > 2147483647 then (some false) else (laws_zzFits19.l0 k l0 (l0.length : Int) 0)) = some r := h
 clear h
 by_cases c2 : (l0.length : Int) > 2147483647
 ·rw [if_pos c2] at H
  have c2b0 : decide (2147483647 < (l0.length : Int)) = true := decide_eq_true c2
  have c2b1 : decide (2147483647 < l0.length) = true := decide_eq_true (by omega)
  clear c2
  obtain rfl := Option.some.inj H
  go_enter Tryz.func8, Tryz.ntmps8
  go_wp2
  go_ret
  exact ⟨by first | rfl | (simp [errW_none, errW_some] <;> rfl) | (simp [*, errW_none, errW_some] <;> rfl), by repeat (first | (with_reducible first | exact HB.out | apply below_alloc | apply pw_below_drewN | apply below_drew1) | exact HB.out)⟩
 ·rw [if_neg c2] at H
  have c2b0 : decide (2147483647 < (l0.length : Int)) = false := decide_eq_false c2
  have c2b1 : decide (2147483647 < l0.length) = false := decide_eq_false (by omega)
  clear c2
  have H' := Aside0.mk H
  clear H
  go_enter Tryz.func8, Tryz.ntmps8
  go_wp2
  go_loopg [10] k (fun kq v10 w' => ∃ (x10_1 : Int), v10 = .int .i64 x10_1 ∧ Aside0 (laws_zzFits19.l0 kq l0 (l0.length : Int) x10_1 = some r) ∧ Aside0 (kq ≤ k) ∧ Aside0 (Below w.heap.size w w'))
  case atStart => exact ⟨(0), orf, H', ⟨Nat.le_refl _⟩, ⟨by repeat (first | (with_reducible first | exact HB.out | apply below_alloc | apply pw_below_drewN | apply below_drew1) | exact HB.out)⟩⟩
  case round =>
   clear H'
   try clear c2
   try clear c2b0
   try clear c2b1
   try clear p2
   obtain ⟨x10_1, rfl, HA, HK1, HB⟩ := hrel
   cases gk with
   | zero => exact absurd HA.out (by simp [laws_zzFits19.l0])
   | succ k1 =>
    have H := HA.out
    clear HA
    simp only [laws_zzFits19.l0] at H
    by_cases c3 : x10_1 < (l0.length : Int)
    ·rw [if_pos c3] at H
     have c3b0 : decide (x10_1 < (l0.length : Int)) = true := decide_eq_true c3
     clear c3
     by_cases c4 : 0 ≤ x10_1
     ·rw [if_pos c4] at H
      have c4b0 : decide (0 ≤ x10_1) = true := decide_eq_true c4
      clear c4
      by_cases c5 : x10_1 < (l0.length : Int)
      ·rw [if_pos c5] at H
       have c5b0 : decide (x10_1 < (l0.length : Int)) = true := decide_eq_true c5
       clear c5
       replace H := Option.bind_eq_some_iff.mp H
       obtain ⟨t104, A60, H⟩ := H
       replace H : (if t104 = true then (laws_zzFits19.l0 k1 l0 (l0.length : Int) (wrap64 (x10_1 + 1))) else (some false)) = some r := H
       have A6 := Aside0.mk A60
       clear A60
       by_cases c7 : t104 = true
       ·subst c7
        have H1 : (laws_zzFits19.l0 k1 l0 (l0.length : Int) (wrap64 (x10_1 + 1))) = some r := by rw [if_pos rfl] at H; exact H
        clear H
        have H := H1
        clear H1
        have H' := Aside0.mk H
        clear H
        have p102 : 0 ≤ (x10_1 : Int) := odt
        have q102 : x10_1 < (l0.length : Int) := odt
        obtain ⟨ad102, e102, hx102_0, hx102_1, hx102_2⟩ := at_T28 HR0.out x10_1 p102 q102
        cases e102
        replace hx102_0 := (HB.out.cell (World.block_lt_of_cell? w _ hx102_0)).trans hx102_0
        replace hx102_1 := (HB.out.cell (World.block_lt_of_cell? w _ hx102_1)).trans hx102_1
        replace hx102_2 := (HB.out.cell (World.block_lt_of_cell? w _ hx102_2)).trans hx102_2
        replace p102 := eq_true p102
        replace q102 := eq_true q102
        go_wp2_with (first | ((with_reducible refine gate_dst (N := 4) rfl ?_); refine box_event ?hg (N := 4) ?hd (cs := #[.string (⟨#[]⟩ : ByteArray), .string (⟨#[]⟩ : ByteArray), .string (⟨#[]⟩ : ByteArray)]) (t := 28) ?hr ?_; (case hd => rfl); (case hg => rfl); (case hr => first | (go_simp; done) | (go_simp; rfl)); intro gb103 hg w8 hbox hb; have n0_ := Aside0.mk (below_step (by repeat (first | (with_reducible first | exact HB.out | apply below_alloc | apply pw_below_drewN | apply below_drew1) | exact HB.out)) hb); have n1_ := Aside0.mk (hbox); have n2_ := Aside0.mk ((by rw [hg]; exact (below_size (by repeat (first | (with_reducible first | exact HB.out | apply below_alloc | apply pw_below_drewN | apply below_drew1) | exact HB.out))) : w.heap.size ≤ gb103)); have n3_ := Aside0.mk ((by rw [hg]; exact (below_size (by repeat (first | (with_reducible first | exact HB.out | apply below_alloc | apply pw_below_drewN | apply below_drew1) | exact HB.out))) : w.heap.size ≤ gb103)); clear HB; have HB := n0_; have BK103 := n1_; have GW103 := n2_; have GE103 := n3_; clear n0_ n1_ n2_ n3_; clear hb hbox hg; have hcz9_0 : w8.cell? ⟨gb103, 0, none⟩ = some (.string (⟨#[]⟩ : ByteArray)) := (blk_cell BK103.out 0).trans rfl; have hcz9_1 : w8.cell? ⟨gb103, 1, none⟩ = some (.string (⟨#[]⟩ : ByteArray)) := (blk_cell BK103.out 1).trans rfl; have hcz9_2 : w8.cell? ⟨gb103, 2, none⟩ = some (.string (⟨#[]⟩ : ByteArray)) := (blk_cell BK103.out 2).trans rfl; have hfz9_0 := blk_frozen BK103.out 0; have hfz9_1 := blk_frozen BK103.out 1; have hfz9_2 := blk_frozen BK103.out 2) | ((with_reducible refine gate_callee (f := 22) rfl ?_); refine goesL_ (some 15) rfl rfl Tryz.func22 (by kernel_rfl) rfl #[.agg #[.string ((rd_T28 l0 x10_1).f0), .string ((rd_T28 l0 x10_1).f1), .string ((rd_T28 l0 x10_1).f2)]] rfl (by (try simp only [List.map_toArray, List.map_cons, List.map_nil]); first | done | rfl | (simp only [List.length_drop, List.length_take]; rfl)) ?_; (with_reducible refine (laws_zzFits20.calls ((rd_T28 l0 x10_1).f0) ((rd_T28 l0 x10_1).f1) ((rd_T28 l0 x10_1).f2) true _ A6.out).mono ?_); rintro e w10 ⟨rfl, hb⟩; refine ⟨_, rfl, ?_⟩; have n0_ := Aside0.mk (blk_below (g := gb103) (o := .cells #[.string ((rd_T28 l0 x10_1).f0), .string ((rd_T28 l0 x10_1).f1), .string ((rd_T28 l0 x10_1).f2)] 28 (0, 0)) (by (with_reducible repeat (first | refine blk_drewN ?_ _ | refine blk_drew ?_ | refine blk_alloc ?_ _)); refine blk_put (cs := #[.string ((rd_T28 l0 x10_1).f0), .string ((rd_T28 l0 x10_1).f1), .string (⟨#[]⟩ : ByteArray)]) ?_ 2 _ rfl; (with_reducible repeat (first | refine blk_drewN ?_ _ | refine blk_drew ?_ | refine blk_alloc ?_ _)); refine blk_put (cs := #[.string ((rd_T28 l0 x10_1).f0), .string (⟨#[]⟩ : ByteArray), .string (⟨#[]⟩ : ByteArray)]) ?_ 1 _ rfl; (with_reducible repeat (first | refine blk_drewN ?_ _ | refine blk_drew ?_ | refine blk_alloc ?_ _)); refine blk_put (cs := #[.string (⟨#[]⟩ : ByteArray), .string (⟨#[]⟩ : ByteArray), .string (⟨#[]⟩ : ByteArray)]) ?_ 0 _ rfl; (with_reducible repeat (first | refine blk_drewN ?_ _ | refine blk_drew ?_ | refine blk_alloc ?_ _)); exact BK103.out) hb); have n1_ := Aside0.mk (below_step (by repeat (first | (with_reducible first | exact HB.out | apply below_alloc | apply pw_below_drewN | apply below_drew1 | refine below_set ?_ GE103.out) | exact HB.out)) hb); clear BK103; clear HB; have BK103 := n0_; have HB := n1_; clear n0_ n1_; (try clear hb); (try clear hb2); (try clear hk); (try clear hi)))
        go_roundg k1
        case measure => have := HK1.out; omega
        case rel => exact ⟨(wrap64 (x10_1 + 1)), orf, H', ⟨by have := HK1.out; omega⟩, ⟨by repeat (first | (with_reducible first | exact HB.out | apply below_alloc | apply pw_below_drewN | apply below_drew1 | refine below_set ?_ GE103.out) | exact HB.out)⟩⟩
       ·replace c7 := Bool.eq_false_iff.mpr c7
        subst c7
        have H1 : (some false) = some r := by rw [if_neg (show ¬ (false = true) by decide)] at H; exact H
        clear H
        have H := H1
        clear H1
        obtain rfl := Option.some.inj H
        have p102 : 0 ≤ (x10_1 : Int) := odt
        have q102 : x10_1 < (l0.length : Int) := odt
        obtain ⟨ad102, e102, hx102_0, hx102_1, hx102_2⟩ := at_T28 HR0.out x10_1 p102 q102
        cases e102
        replace hx102_0 := (HB.out.cell (World.block_lt_of_cell? w _ hx102_0)).trans hx102_0
        replace hx102_1 := (HB.out.cell (World.block_lt_of_cell? w _ hx102_1)).trans hx102_1
        replace hx102_2 := (HB.out.cell (World.block_lt_of_cell? w _ hx102_2)).trans hx102_2
        replace p102 := eq_true p102
        replace q102 := eq_true q102
        go_wp2_with (first | ((with_reducible refine gate_dst (N := 4) rfl ?_); refine box_event ?hg (N := 4) ?hd (cs := #[.string (⟨#[]⟩ : ByteArray), .string (⟨#[]⟩ : ByteArray), .string (⟨#[]⟩ : ByteArray)]) (t := 28) ?hr ?_; (case hd => rfl); (case hg => rfl); (case hr => first | (go_simp; done) | (go_simp; rfl)); intro gb103 hg w11 hbox hb; have n0_ := Aside0.mk (below_step (by repeat (first | (with_reducible first | exact HB.out | apply below_alloc | apply pw_below_drewN | apply below_drew1) | exact HB.out)) hb); have n1_ := Aside0.mk (hbox); have n2_ := Aside0.mk ((by rw [hg]; exact (below_size (by repeat (first | (with_reducible first | exact HB.out | apply below_alloc | apply pw_below_drewN | apply below_drew1) | exact HB.out))) : w.heap.size ≤ gb103)); have n3_ := Aside0.mk ((by rw [hg]; exact (below_size (by repeat (first | (with_reducible first | exact HB.out | apply below_alloc | apply pw_below_drewN | apply below_drew1) | exact HB.out))) : w.heap.size ≤ gb103)); clear HB; have HB := n0_; have BK103 := n1_; have GW103 := n2_; have GE103 := n3_; clear n0_ n1_ n2_ n3_; clear hb hbox hg; have hcz12_0 : w11.cell? ⟨gb103, 0, none⟩ = some (.string (⟨#[]⟩ : ByteArray)) := (blk_cell BK103.out 0).trans rfl; have hcz12_1 : w11.cell? ⟨gb103, 1, none⟩ = some (.string (⟨#[]⟩ : ByteArray)) := (blk_cell BK103.out 1).trans rfl; have hcz12_2 : w11.cell? ⟨gb103, 2, none⟩ = some (.string (⟨#[]⟩ : ByteArray)) := (blk_cell BK103.out 2).trans rfl; have hfz12_0 := blk_frozen BK103.out 0; have hfz12_1 := blk_frozen BK103.out 1; have hfz12_2 := blk_frozen BK103.out 2) | ((with_reducible refine gate_callee (f := 22) rfl ?_); refine goesL_ (some 15) rfl rfl Tryz.func22 (by kernel_rfl) rfl #[.agg #[.string ((rd_T28 l0 x10_1).f0), .string ((rd_T28 l0 x10_1).f1), .string ((rd_T28 l0 x10_1).f2)]] rfl (by (try simp only [List.map_toArray, List.map_cons, List.map_nil]); first | done | rfl | (simp only [List.length_drop, List.length_take]; rfl)) ?_; (with_reducible refine (laws_zzFits20.calls ((rd_T28 l0 x10_1).f0) ((rd_T28 l0 x10_1).f1) ((rd_T28 l0 x10_1).f2) false _ A6.out).mono ?_); rintro e w13 ⟨rfl, hb⟩; refine ⟨_, rfl, ?_⟩; have n0_ := Aside0.mk (blk_below (g := gb103) (o := .cells #[.string ((rd_T28 l0 x10_1).f0), .string ((rd_T28 l0 x10_1).f1), .string ((rd_T28 l0 x10_1).f2)] 28 (0, 0)) (by (with_reducible repeat (first | refine blk_drewN ?_ _ | refine blk_drew ?_ | refine blk_alloc ?_ _)); refine blk_put (cs := #[.string ((rd_T28 l0 x10_1).f0), .string ((rd_T28 l0 x10_1).f1), .string (⟨#[]⟩ : ByteArray)]) ?_ 2 _ rfl; (with_reducible repeat (first | refine blk_drewN ?_ _ | refine blk_drew ?_ | refine blk_alloc ?_ _)); refine blk_put (cs := #[.string ((rd_T28 l0 x10_1).f0), .string (⟨#[]⟩ : ByteArray), .string (⟨#[]⟩ : ByteArray)]) ?_ 1 _ rfl; (with_reducible repeat (first | refine blk_drewN ?_ _ | refine blk_drew ?_ | refine blk_alloc ?_ _)); refine blk_put (cs := #[.string (⟨#[]⟩ : ByteArray), .string (⟨#[]⟩ : ByteArray), .string (⟨#[]⟩ : ByteArray)]) ?_ 0 _ rfl; (with_reducible repeat (first | refine blk_drewN ?_ _ | refine blk_drew ?_ | refine blk_alloc ?_ _)); exact BK103.out) hb); have n1_ := Aside0.mk (below_step (by repeat (first | (with_reducible first | exact HB.out | apply below_alloc | apply pw_below_drewN | apply below_drew1 | refine below_set ?_ GE103.out) | exact HB.out)) hb); clear BK103; clear HB; have BK103 := n0_; have HB := n1_; clear n0_ n1_; (try clear hb); (try clear hb2); (try clear hk); (try clear hi)))
        go_ret
        exact ⟨by first | rfl | (simp [errW_none, errW_some] <;> rfl) | (simp [*, errW_none, errW_some] <;> rfl), by repeat (first | (with_reducible first | exact HB.out | apply below_alloc | apply pw_below_drewN | apply below_drew1 | refine below_set ?_ GE103.out) | exact HB.out)⟩
      ·rw [if_neg c5] at H
       exact absurd H (by simp)
     ·rw [if_neg c4] at H
      exact absurd H (by simp)
    ·rw [if_neg c3] at H
     have c3b0 : decide (x10_1 < (l0.length : Int)) = false := decide_eq_false c3
     clear c3
     obtain rfl := Option.some.inj H
     go_wp2
     go_ret
     exact ⟨by first | rfl | (simp [errW_none, errW_some] <;> rfl) | (simp [*, errW_none, errW_some] <;> rfl), by repeat (first | (with_reducible first | exact HB.out | apply below_alloc | apply pw_below_drewN | apply below_drew1) | exact HB.out)⟩

/-! ### laws_holds: function 20 -/
def laws_holds.l0 : Nat → ByteArray → ByteArray → Int → Option (Bool)
 | 0, _, _, _ => none
 | k + 1, x0, x1, x5 => if (wrap64 (x5 + (x1.size : Int))) ≤ (x0.size : Int) then (if 0 ≤ x5 then (if x5 ≤ (wrap64 (x5 + (x1.size : Int))) then (if (x0.extract (x5 : Int).toNat ((wrap64 (x5 + (x1.size : Int))) : Int).toNat).toList = x1.toList then (some true) else (laws_holds.l0 k x0 x1 (wrap64 (x5 + 1)))) else (none)) else (none)) else (some false)
def laws_holds.f (k : Nat) (a0 : ByteArray) (a1 : ByteArray) : Option (Bool) := laws_holds.l0 k a0 a1 0
theorem laws_holds.mono_l : ∀ k, (∀ y0 y1 y2, LeO (laws_holds.l0 k y0 y1 y2) (laws_holds.l0 (k + 1) y0 y1 y2))
 | 0 => fun _ _ _ r h => by simp [laws_holds.l0] at h
 | k + 1 => by
  have ih0 := laws_holds.mono_l k
  ·intro y0 y1 y2
   unfold laws_holds.l0
   repeat' first
   | (with_reducible exact ih0 _ _ _)
   | (with_reducible exact LeO.refl _)
   | (with_reducible exact LeO.none _)
   | (with_reducible refine LeO.ite ?_ ?_)
   | (with_reducible refine LeO.bind ?_ (fun _ => ?_))
   | exact ih0 _ _ _
   | exact LeO.none _
   | refine LeO.ite ?_ ?_
   | refine LeO.bind ?_ (fun _ => ?_)
theorem laws_holds.mono : ∀ a0 a1 k, LeO (laws_holds.f k a0 a1) (laws_holds.f (k + 1) a0 a1) := by
 intro a0 a1 k
 have ih0 := laws_holds.mono_l k
 unfold laws_holds.f
 repeat' first
   | (with_reducible exact ih0 _ _ _)
   | (with_reducible exact LeO.refl _)
   | (with_reducible exact LeO.none _)
   | (with_reducible refine LeO.ite ?_ ?_)
   | (with_reducible refine LeO.bind ?_ (fun _ => ?_))
   | exact ih0 _ _ _
   | exact LeO.none _
   | refine LeO.ite ?_ ?_
   | refine LeO.bind ?_ (fun _ => ?_)
set_option maxHeartbeats 8000000 in
set_option maxRecDepth 100000 in
theorem laws_holds.calls (k : Nat) (a0 : ByteArray) (a1 : ByteArray) (r : Bool) (w : World) (h : laws_holds.f k a0 a1 = some r) :
  Calls Tryz.prog 20 #[.string a0, .string a1] w fun e w' => e = .returned (.bool r) ∧ Drawn0 w w' := by
 have H : (laws_holds.l0 k a0 a1 0) = some r := h
 clear h
 have H' := Aside0.mk H
 clear H
 go_enter Tryz.func20, Tryz.ntmps20
 go_wp2
 go_loopg [5] k (fun kq v5 w' => ∃ (x5_1 : Int), v5 = .int .i64 x5_1 ∧ Aside0 (laws_holds.l0 kq a0 a1 x5_1 = some r) ∧ Aside0 (kq ≤ k) ∧ Drawn0 w w')
 case atStart => exact ⟨(0), orf, H', ⟨Nat.le_refl _⟩, by repeat (first | exact Drawn0.refl _ | apply Drawn0.step)⟩
 case round =>
  clear H'
  try clear c2
  try clear p2
  obtain ⟨x5_1, rfl, HA, HK1, ⟨m1, rfl⟩⟩ := hrel
  cases gk with
  | zero => exact absurd HA.out (by simp [laws_holds.l0])
  | succ k1 =>
   have H := HA.out
   clear HA
   simp only [laws_holds.l0] at H
   by_cases c3 : (wrap64 (x5_1 + (a1.size : Int))) ≤ (a0.size : Int)
   ·rw [if_pos c3] at H
    have c3b0 : decide ((wrap64 (x5_1 + (a1.size : Int))) ≤ (a0.size : Int)) = true := decide_eq_true c3
    clear c3
    by_cases c4 : 0 ≤ x5_1
    ·rw [if_pos c4] at H
     have c4b0 := eq_true c4
     have c4b1 : decide (0 ≤ x5_1) = true := decide_eq_true c4
     clear c4
     by_cases c5 : x5_1 ≤ (wrap64 (x5_1 + (a1.size : Int)))
     ·rw [if_pos c5] at H
      have c5b0 := eq_true c5
      have c5b1 : decide (x5_1 ≤ (wrap64 (x5_1 + (a1.size : Int)))) = true := decide_eq_true c5
      have c6b0 := eq_true (odt : (wrap64 (x5_1 + (a1.size : Int))) ≤ (a0.size : Int))
      by_cases c7 : (a0.extract (x5_1 : Int).toNat ((wrap64 (x5_1 + (a1.size : Int))) : Int).toNat).toList = a1.toList
      ·rw [if_pos c7] at H
       have c7b0 : ((a0.extract (x5_1 : Int).toNat ((wrap64 (x5_1 + (a1.size : Int))) : Int).toNat).toList == a1.toList) = true := beq_iff_eq.mpr c7
       have c7b1 : ((a0.extract (x5_1 : Int).toNat ((wrap64 (x5_1 + (a1.size : Int))) : Int).toNat).toList != a1.toList) = false := bne_eq_false_iff_eq.mpr c7
       clear c7
       obtain rfl := Option.some.inj H
       go_wp2
       go_ret
       exact ⟨by first | rfl | (simp; done) | (simp [*]; done), by repeat (first | exact Drawn0.refl _ | apply Drawn0.step)⟩
      ·rw [if_neg c7] at H
       have c7b0 : ((a0.extract (x5_1 : Int).toNat ((wrap64 (x5_1 + (a1.size : Int))) : Int).toNat).toList == a1.toList) = false := beq_eq_false_iff_ne.mpr c7
       have c7b1 : ((a0.extract (x5_1 : Int).toNat ((wrap64 (x5_1 + (a1.size : Int))) : Int).toNat).toList != a1.toList) = true := bne_iff_ne.mpr c7
       have H' := Aside0.mk H
       clear H
       go_wp2
       go_roundg k1
       case measure => have := HK1.out; omega
       case rel => exact ⟨(wrap64 (x5_1 + 1)), orf, H', ⟨by have := HK1.out; omega⟩, by repeat (first | exact Drawn0.refl _ | apply Drawn0.step)⟩
     ·rw [if_neg c5] at H
      exact absurd H (by simp)
    ·rw [if_neg c4] at H
     exact absurd H (by simp)
   ·rw [if_neg c3] at H
    have c3b0 : decide ((wrap64 (x5_1 + (a1.size : Int))) ≤ (a0.size : Int)) = false := decide_eq_false c3
    clear c3
    obtain rfl := Option.some.inj H
    go_wp2
    go_ret
    exact ⟨by first | rfl | (simp; done) | (simp [*]; done), by repeat (first | exact Drawn0.refl _ | apply Drawn0.step)⟩

/-! ### spec_WordByte: function 45 -/
def spec_WordByte.f (a0 : Int) : Option (Bool) := if a0 ≥ 97 then (if a0 ≤ 122 then (some true) else (if a0 ≥ 65 then (if a0 ≤ 90 then (some true) else (if a0 ≥ 48 then (if a0 ≤ 57 then (some true) else (some (a0 == 95))) else (some (a0 == 95)))) else (if a0 ≥ 48 then (if a0 ≤ 57 then (some true) else (some (a0 == 95))) else (some (a0 == 95))))) else (if a0 ≥ 65 then (if a0 ≤ 90 then (some true) else (if a0 ≥ 48 then (if a0 ≤ 57 then (some true) else (some (a0 == 95))) else (some (a0 == 95)))) else (if a0 ≥ 48 then (if a0 ≤ 57 then (some true) else (some (a0 == 95))) else (some (a0 == 95))))
set_option maxHeartbeats 8000000 in
set_option maxRecDepth 100000 in
theorem spec_WordByte.calls (a0 : Int) (r : Bool) (w : World) (h : spec_WordByte.f a0 = some r) :
  Calls Tryz.prog 45 #[.int .u8 a0] w fun e w' => e = .returned (.bool r) ∧ Drawn0 w w' := by
 have H : (if a0 ≥ 97 then (if a0 ≤ 122 then (some true) else (if a0 ≥ 65 then (if a0 ≤ 90 then (some true) else (if a0 ≥ 48 then (if a0 ≤ 57 then (some true) else (some (a0 == 95))) else (some (a0 == 95)))) else (if a0 ≥ 48 then (if a0 ≤ 57 then (some true) else (some (a0 == 95))) else (some (a0 == 95))))) else (if a0 ≥ 65 then (if a0 ≤ 90 then (some true) else (if a0 ≥ 48 then (if a0 ≤ 57 then (some true) else (some (a0 == 95))) else (some (a0 == 95)))) else (if a0 ≥ 48 then (if a0 ≤ 57 then (some true) else (some (a0 == 95))) else (some (a0 == 95))))) = some r := h
 clear h
 by_cases c2 : a0 ≥ 97
 ·rw [if_pos c2] at H
  have c2b0 : decide (97 ≤ a0) = true := decide_eq_true c2
  clear c2
  by_cases c3 : a0 ≤ 122
  ·rw [if_pos c3] at H
   have c3b0 : decide (a0 ≤ 122) = true := decide_eq_true c3
   clear c3
   obtain rfl := Option.some.inj H
   go_enter Tryz.func45, Tryz.ntmps45
   go_wp2
   go_ret
   exact ⟨by first | rfl | (simp; done) | (simp [*]; done), by repeat (first | exact Drawn0.refl _ | apply Drawn0.step)⟩
  ·rw [if_neg c3] at H
   have c3b0 : decide (a0 ≤ 122) = false := decide_eq_false c3
   clear c3
   by_cases c4 : a0 ≥ 65
   ·rw [if_pos c4] at H
    have c4b0 : decide (65 ≤ a0) = true := decide_eq_true c4
    clear c4
    by_cases c5 : a0 ≤ 90
    ·rw [if_pos c5] at H
     have c5b0 : decide (a0 ≤ 90) = true := decide_eq_true c5
     clear c5
     obtain rfl := Option.some.inj H
     go_enter Tryz.func45, Tryz.ntmps45
     go_wp2
     go_ret
     exact ⟨by first | rfl | (simp; done) | (simp [*]; done), by repeat (first | exact Drawn0.refl _ | apply Drawn0.step)⟩
    ·rw [if_neg c5] at H
     have c5b0 : decide (a0 ≤ 90) = false := decide_eq_false c5
     clear c5
     by_cases c6 : a0 ≥ 48
     ·rw [if_pos c6] at H
      have c6b0 : decide (48 ≤ a0) = true := decide_eq_true c6
      clear c6
      by_cases c7 : a0 ≤ 57
      ·rw [if_pos c7] at H
       have c7b0 : decide (a0 ≤ 57) = true := decide_eq_true c7
       clear c7
       obtain rfl := Option.some.inj H
       go_enter Tryz.func45, Tryz.ntmps45
       go_wp2
       go_ret
       exact ⟨by first | rfl | (simp; done) | (simp [*]; done), by repeat (first | exact Drawn0.refl _ | apply Drawn0.step)⟩
      ·rw [if_neg c7] at H
       have c7b0 : decide (a0 ≤ 57) = false := decide_eq_false c7
       clear c7
       obtain rfl := Option.some.inj H
       go_enter Tryz.func45, Tryz.ntmps45
       go_wp2
       go_ret
       exact ⟨by first | rfl | (simp; done) | (simp [*]; done), by repeat (first | exact Drawn0.refl _ | apply Drawn0.step)⟩
     ·rw [if_neg c6] at H
      have c6b0 : decide (48 ≤ a0) = false := decide_eq_false c6
      clear c6
      obtain rfl := Option.some.inj H
      go_enter Tryz.func45, Tryz.ntmps45
      go_wp2
      go_ret
      exact ⟨by first | rfl | (simp; done) | (simp [*]; done), by repeat (first | exact Drawn0.refl _ | apply Drawn0.step)⟩
   ·rw [if_neg c4] at H
    have c4b0 : decide (65 ≤ a0) = false := decide_eq_false c4
    clear c4
    by_cases c8 : a0 ≥ 48
    ·rw [if_pos c8] at H
     have c8b0 : decide (48 ≤ a0) = true := decide_eq_true c8
     clear c8
     by_cases c9 : a0 ≤ 57
     ·rw [if_pos c9] at H
      have c9b0 : decide (a0 ≤ 57) = true := decide_eq_true c9
      clear c9
      obtain rfl := Option.some.inj H
      go_enter Tryz.func45, Tryz.ntmps45
      go_wp2
      go_ret
      exact ⟨by first | rfl | (simp; done) | (simp [*]; done), by repeat (first | exact Drawn0.refl _ | apply Drawn0.step)⟩
     ·rw [if_neg c9] at H
      have c9b0 : decide (a0 ≤ 57) = false := decide_eq_false c9
      clear c9
      obtain rfl := Option.some.inj H
      go_enter Tryz.func45, Tryz.ntmps45
      go_wp2
      go_ret
      exact ⟨by first | rfl | (simp; done) | (simp [*]; done), by repeat (first | exact Drawn0.refl _ | apply Drawn0.step)⟩
    ·rw [if_neg c8] at H
     have c8b0 : decide (48 ≤ a0) = false := decide_eq_false c8
     clear c8
     obtain rfl := Option.some.inj H
     go_enter Tryz.func45, Tryz.ntmps45
     go_wp2
     go_ret
     exact ⟨by first | rfl | (simp; done) | (simp [*]; done), by repeat (first | exact Drawn0.refl _ | apply Drawn0.step)⟩
 ·rw [if_neg c2] at H
  have c2b0 : decide (97 ≤ a0) = false := decide_eq_false c2
  clear c2
  by_cases c10 : a0 ≥ 65
  ·rw [if_pos c10] at H
   have c10b0 : decide (65 ≤ a0) = true := decide_eq_true c10
   clear c10
   by_cases c11 : a0 ≤ 90
   ·rw [if_pos c11] at H
    have c11b0 : decide (a0 ≤ 90) = true := decide_eq_true c11
    clear c11
    obtain rfl := Option.some.inj H
    go_enter Tryz.func45, Tryz.ntmps45
    go_wp2
    go_ret
    exact ⟨by first | rfl | (simp; done) | (simp [*]; done), by repeat (first | exact Drawn0.refl _ | apply Drawn0.step)⟩
   ·rw [if_neg c11] at H
    have c11b0 : decide (a0 ≤ 90) = false := decide_eq_false c11
    clear c11
    by_cases c12 : a0 ≥ 48
    ·rw [if_pos c12] at H
     have c12b0 : decide (48 ≤ a0) = true := decide_eq_true c12
     clear c12
     by_cases c13 : a0 ≤ 57
     ·rw [if_pos c13] at H
      have c13b0 : decide (a0 ≤ 57) = true := decide_eq_true c13
      clear c13
      obtain rfl := Option.some.inj H
      go_enter Tryz.func45, Tryz.ntmps45
      go_wp2
      go_ret
      exact ⟨by first | rfl | (simp; done) | (simp [*]; done), by repeat (first | exact Drawn0.refl _ | apply Drawn0.step)⟩
     ·rw [if_neg c13] at H
      have c13b0 : decide (a0 ≤ 57) = false := decide_eq_false c13
      clear c13
      obtain rfl := Option.some.inj H
      go_enter Tryz.func45, Tryz.ntmps45
      go_wp2
      go_ret
      exact ⟨by first | rfl | (simp; done) | (simp [*]; done), by repeat (first | exact Drawn0.refl _ | apply Drawn0.step)⟩
    ·rw [if_neg c12] at H
     have c12b0 : decide (48 ≤ a0) = false := decide_eq_false c12
     clear c12
     obtain rfl := Option.some.inj H
     go_enter Tryz.func45, Tryz.ntmps45
     go_wp2
     go_ret
     exact ⟨by first | rfl | (simp; done) | (simp [*]; done), by repeat (first | exact Drawn0.refl _ | apply Drawn0.step)⟩
  ·rw [if_neg c10] at H
   have c10b0 : decide (65 ≤ a0) = false := decide_eq_false c10
   clear c10
   by_cases c14 : a0 ≥ 48
   ·rw [if_pos c14] at H
    have c14b0 : decide (48 ≤ a0) = true := decide_eq_true c14
    clear c14
    by_cases c15 : a0 ≤ 57
    ·rw [if_pos c15] at H
     have c15b0 : decide (a0 ≤ 57) = true := decide_eq_true c15
     clear c15
     obtain rfl := Option.some.inj H
     go_enter Tryz.func45, Tryz.ntmps45
     go_wp2
     go_ret
     exact ⟨by first | rfl | (simp; done) | (simp [*]; done), by repeat (first | exact Drawn0.refl _ | apply Drawn0.step)⟩
    ·rw [if_neg c15] at H
     have c15b0 : decide (a0 ≤ 57) = false := decide_eq_false c15
     clear c15
     obtain rfl := Option.some.inj H
     go_enter Tryz.func45, Tryz.ntmps45
     go_wp2
     go_ret
     exact ⟨by first | rfl | (simp; done) | (simp [*]; done), by repeat (first | exact Drawn0.refl _ | apply Drawn0.step)⟩
   ·rw [if_neg c14] at H
    have c14b0 : decide (48 ≤ a0) = false := decide_eq_false c14
    clear c14
    obtain rfl := Option.some.inj H
    go_enter Tryz.func45, Tryz.ntmps45
    go_wp2
    go_ret
    exact ⟨by first | rfl | (simp; done) | (simp [*]; done), by repeat (first | exact Drawn0.refl _ | apply Drawn0.step)⟩

/-! ### spec_Definition: function 46 -/
mutual
def spec_Definition.j0 : Nat → ByteArray → Bool → Option (Bool)
 | 0, _, _ => none
 | k + 1, x0, x15 => if x15 = true then (some false) else (spec_Definition.l0 k x0 1)
def spec_Definition.l0 : Nat → ByteArray → Int → Option (Bool)
 | 0, _, _ => none
 | k + 1, x0, x3 => if x3 < (x0.size : Int) then (if 0 ≤ x3 then (if (bt x0 x3) < 48 then (some false) else (if (bt x0 x3) > 57 then (some false) else (spec_Definition.l0 k x0 (wrap64 (x3 + 1))))) else (none)) else (some true)
end
def spec_Definition.f (k : Nat) (a0 : ByteArray) : Option (Bool) := if a0.toList = ([] : List UInt8) then (spec_Definition.j0 k a0 true) else (if 0 < (a0.size : Int) then (if (bt a0 0) = 114 then (spec_Definition.j0 k a0 false) else (spec_Definition.j0 k a0 ((bt a0 0) != 112))) else (none))
theorem spec_Definition.mono_l : ∀ k, (∀ y0 y1, LeO (spec_Definition.j0 k y0 y1) (spec_Definition.j0 (k + 1) y0 y1)) ∧ (∀ y0 y1, LeO (spec_Definition.l0 k y0 y1) (spec_Definition.l0 (k + 1) y0 y1))
 | 0 => ⟨fun _ _ r h => by simp [spec_Definition.j0] at h, fun _ _ r h => by simp [spec_Definition.l0] at h⟩
 | k + 1 => by
  obtain ⟨ih0, ih1⟩ := spec_Definition.mono_l k
  refine ⟨?_, ?_⟩
  ·intro y0 y1
   unfold spec_Definition.j0
   repeat' first
   | (with_reducible exact ih0 _ _)
   | (with_reducible exact ih1 _ _)
   | (with_reducible exact LeO.refl _)
   | (with_reducible exact LeO.none _)
   | (with_reducible refine LeO.ite ?_ ?_)
   | (with_reducible refine LeO.bind ?_ (fun _ => ?_))
   | exact ih0 _ _
   | exact ih1 _ _
   | exact LeO.none _
   | refine LeO.ite ?_ ?_
   | refine LeO.bind ?_ (fun _ => ?_)
  ·intro y0 y1
   unfold spec_Definition.l0
   repeat' first
   | (with_reducible exact ih0 _ _)
   | (with_reducible exact ih1 _ _)
   | (with_reducible exact LeO.refl _)
   | (with_reducible exact LeO.none _)
   | (with_reducible refine LeO.ite ?_ ?_)
   | (with_reducible refine LeO.bind ?_ (fun _ => ?_))
   | exact ih0 _ _
   | exact ih1 _ _
   | exact LeO.none _
   | refine LeO.ite ?_ ?_
   | refine LeO.bind ?_ (fun _ => ?_)
theorem spec_Definition.mono : ∀ a0 k, LeO (spec_Definition.f k a0) (spec_Definition.f (k + 1) a0) := by
 intro a0 k
 obtain ⟨ih0, ih1⟩ := spec_Definition.mono_l k
 unfold spec_Definition.f
 repeat' first
   | (with_reducible exact ih0 _ _)
   | (with_reducible exact ih1 _ _)
   | (with_reducible exact LeO.refl _)
   | (with_reducible exact LeO.none _)
   | (with_reducible refine LeO.ite ?_ ?_)
   | (with_reducible refine LeO.bind ?_ (fun _ => ?_))
   | exact ih0 _ _
   | exact ih1 _ _
   | exact LeO.none _
   | refine LeO.ite ?_ ?_
   | refine LeO.bind ?_ (fun _ => ?_)
set_option maxHeartbeats 8000000 in
set_option maxRecDepth 100000 in
theorem spec_Definition.calls (k : Nat) (a0 : ByteArray) (r : Bool) (w : World) (h : spec_Definition.f k a0 = some r) :
  Calls Tryz.prog 46 #[.string a0] w fun e w' => e = .returned (.bool r) ∧ Drawn0 w w' := by
 have H : (if a0.toList = ([] : List UInt8) then (spec_Definition.j0 k a0 true) else (if 0 < (a0.size : Int) then (if (bt a0 0) = 114 then (spec_Definition.j0 k a0 false) else (spec_Definition.j0 k a0 ((bt a0 0) != 112))) else (none))) = some r := h
 clear h
 have HC2 := Aside0.mk H
 clear H
 go_enter Tryz.func46, Tryz.ntmps46
 go_upto_region 1 with (fail)
 go_cut [15] (fun v15 wc => ∃ (kq : Nat) (x15_1 : Bool), v15 = .bool x15_1 ∧ Aside0 (spec_Definition.j0 kq a0 x15_1 = some r) ∧ Aside0 (kq ≤ k) ∧ Drawn0 w wc)
 case first =>
  have H := HC2.out
  clear HC2
  by_cases c3 : a0.toList = ([] : List UInt8)
  ·rw [if_pos c3] at H
   have c3b0 : (a0.toList == ([] : List UInt8)) = true := beq_iff_eq.mpr c3
   have c3b9 : a0.toList.isEmpty = true := by rw [c3]; rfl
   have c3b1 : (a0.toList != ([] : List UInt8)) = false := bne_eq_false_iff_eq.mpr c3
   clear c3
   (first | rw [c3b0] | (simp only [i64_w, i32_w]; rw [c3b0]) | skip)
   try rw [c3b9]
   try simp only [Bool.not_true, Bool.not_false]
   have H' := Aside0.mk H
   clear H
   go_wp2
   go_meet
   case rel => exact ⟨_, (true), orf, H', ⟨by first | omega | exact Nat.le_refl _⟩, by repeat (first | exact Drawn0.refl _ | apply Drawn0.step)⟩
  ·rw [if_neg c3] at H
   have c3b0 : (a0.toList == ([] : List UInt8)) = false := beq_eq_false_iff_ne.mpr c3
   have c3b9 : a0.toList.isEmpty = false := isEmpty_no_ c3
   have c3b1 : (a0.toList != ([] : List UInt8)) = true := bne_iff_ne.mpr c3
   (first | rw [c3b0] | (simp only [i64_w, i32_w]; rw [c3b0]) | skip)
   try rw [c3b9]
   try simp only [Bool.not_true, Bool.not_false]
   by_cases c4 : 0 < (a0.size : Int)
   ·rw [if_pos c4] at H
    have c4b0 : decide (0 < (a0.size : Int)) = true := decide_eq_true c4
    have c4b1 : decide (0 < a0.size) = true := decide_eq_true (by omega)
    clear c4
    by_cases c6 : (bt a0 0) = 114
    ·rw [if_pos c6] at H
     have c6b0 : ((bt a0 0) == 114) = true := beq_iff_eq.mpr c6
     have c6b1 : ((bt a0 0) != 114) = false := bne_eq_false_iff_eq.mpr c6
     clear c6
     have H' := Aside0.mk H
     clear H
     have p5 : 0 ≤ (0 : Int) := (by omega)
     have q5 : 0 < a0.size := (by have : (0 : Int) < (a0.size : Int) := odt; omega)
     have hx5 : ∀ h : 0 < a0.size, ((a0[0]'h).toNat : Int) = bt a0 0 := bt_at a0 0
     clear p5
     have qi5 : (0 < (a0.size : Int)) = True := eq_true (odt)
     replace q5 := eq_true q5
     go_wp2
     go_meet
     case rel => exact ⟨_, (false), orf, H', ⟨by first | omega | exact Nat.le_refl _⟩, by repeat (first | exact Drawn0.refl _ | apply Drawn0.step)⟩
    ·rw [if_neg c6] at H
     have c6b0 : ((bt a0 0) == 114) = false := beq_eq_false_iff_ne.mpr c6
     have c6b1 : ((bt a0 0) != 114) = true := bne_iff_ne.mpr c6
     have H' := Aside0.mk H
     clear H
     have p5 : 0 ≤ (0 : Int) := (by omega)
     have q5 : 0 < a0.size := (by have : (0 : Int) < (a0.size : Int) := odt; omega)
     have hx5 : ∀ h : 0 < a0.size, ((a0[0]'h).toNat : Int) = bt a0 0 := bt_at a0 0
     clear p5
     have qi5 : (0 < (a0.size : Int)) = True := eq_true (odt)
     replace q5 := eq_true q5
     have p7 : 0 ≤ (0 : Int) := (by omega)
     have q7 : 0 < a0.size := (by have : (0 : Int) < (a0.size : Int) := odt; omega)
     have hx7 : ∀ h : 0 < a0.size, ((a0[0]'h).toNat : Int) = bt a0 0 := bt_at a0 0
     clear p7
     have qi7 : (0 < (a0.size : Int)) = True := eq_true (odt)
     replace q7 := eq_true q7
     go_wp2
     go_meet
     case rel => exact ⟨_, (((bt a0 0) != 112)), orf, H', ⟨by first | omega | exact Nat.le_refl _⟩, by repeat (first | exact Drawn0.refl _ | apply Drawn0.step)⟩
   ·rw [if_neg c4] at H
    exact absurd H (by simp)
 case rest =>
  clear HC2
  try clear p2
  try clear c3
  try clear c3b0
  try clear c3b1
  try clear c4
  try clear c4b0
  try clear c4b1
  try clear p5
  try clear q5
  try clear hx5
  try clear qi5
  try clear c6
  try clear c6b0
  try clear c6b1
  try clear p7
  try clear q7
  try clear hx7
  try clear qi7
  try clear p5
  try clear p7
  try clear q5
  try clear q7
  obtain ⟨kq, x15_1, rfl, HA, HJ1, ⟨mc1, rfl⟩⟩ := hcut
  cases kq with
  | zero => exact absurd HA.out (by simp [spec_Definition.j0])
  | succ kj1 =>
   have H := HA.out
   clear HA
   simp only [spec_Definition.j0] at H
   by_cases c8 : x15_1 = true
   ·subst c8
    have H1 : (some false) = some r := by rw [if_pos rfl] at H; exact H
    clear H
    have H := H1
    clear H1
    obtain rfl := Option.some.inj H
    go_wp2
    go_ret
    exact ⟨by first | rfl | (simp; done) | (simp [*]; done), by repeat (first | exact Drawn0.refl _ | apply Drawn0.step)⟩
   ·replace c8 := Bool.eq_false_iff.mpr c8
    subst c8
    have H1 : (spec_Definition.l0 kj1 a0 1) = some r := by rw [if_neg (show ¬ (false = true) by decide)] at H; exact H
    clear H
    have H := H1
    clear H1
    have H' := Aside0.mk H
    clear H
    go_wp2
    go_loopg [3] kj1 (fun kq v3 w' => ∃ (x3_2 : Int), v3 = .int .i64 x3_2 ∧ Aside0 (spec_Definition.l0 kq a0 x3_2 = some r) ∧ Aside0 (kq ≤ kj1) ∧ Drawn0 w w')
    case atStart => exact ⟨(1), orf, H', ⟨Nat.le_refl _⟩, by repeat (first | exact Drawn0.refl _ | apply Drawn0.step)⟩
    case round =>
     clear H'
     try clear c1
     try clear p2
     try clear c3
     try clear c3b0
     try clear c3b1
     try clear c4
     try clear c4b0
     try clear c4b1
     try clear p5
     try clear q5
     try clear hx5
     try clear qi5
     try clear c6
     try clear c6b0
     try clear c6b1
     try clear p7
     try clear q7
     try clear hx7
     try clear qi7
     try clear c8
     try clear p2
     try clear p5
     try clear p7
     try clear q5
     try clear q7
     obtain ⟨x3_2, rfl, HA, HK2, ⟨m2, rfl⟩⟩ := hrel
     cases gk with
     | zero => exact absurd HA.out (by simp [spec_Definition.l0])
     | succ k2 =>
      have H := HA.out
      clear HA
      simp only [spec_Definition.l0] at H
      by_cases c9 : x3_2 < (a0.size : Int)
      ·rw [if_pos c9] at H
       have c9b0 : decide (x3_2 < (a0.size : Int)) = true := decide_eq_true c9
       clear c9
       by_cases c10 : 0 ≤ x3_2
       ·rw [if_pos c10] at H
        have c10b0 : decide (0 ≤ x3_2) = true := decide_eq_true c10
        clear c10
        by_cases c12 : (bt a0 x3_2) < 48
        ·rw [if_pos c12] at H
         have c12b0 : decide ((bt a0 x3_2) < 48) = true := decide_eq_true c12
         clear c12
         obtain rfl := Option.some.inj H
         have p11 : 0 ≤ (x3_2 : Int) := odt
         have q11 : x3_2 < (a0.size : Int) := odt
         have hx11 := bt_at a0 x3_2
         replace p11 := eq_true p11
         replace q11 := eq_true q11
         go_wp2
         go_ret
         exact ⟨by first | rfl | (simp; done) | (simp [*]; done), by repeat (first | exact Drawn0.refl _ | apply Drawn0.step)⟩
        ·rw [if_neg c12] at H
         have c12b0 : decide ((bt a0 x3_2) < 48) = false := decide_eq_false c12
         clear c12
         by_cases c14 : (bt a0 x3_2) > 57
         ·rw [if_pos c14] at H
          have c14b0 : decide (57 < (bt a0 x3_2)) = true := decide_eq_true c14
          clear c14
          obtain rfl := Option.some.inj H
          have p11 : 0 ≤ (x3_2 : Int) := odt
          have q11 : x3_2 < (a0.size : Int) := odt
          have hx11 := bt_at a0 x3_2
          replace p11 := eq_true p11
          replace q11 := eq_true q11
          have p13 : 0 ≤ (x3_2 : Int) := odt
          have q13 : x3_2 < (a0.size : Int) := odt
          have hx13 := bt_at a0 x3_2
          replace p13 := eq_true p13
          replace q13 := eq_true q13
          go_wp2
          go_ret
          exact ⟨by first | rfl | (simp; done) | (simp [*]; done), by repeat (first | exact Drawn0.refl _ | apply Drawn0.step)⟩
         ·rw [if_neg c14] at H
          have c14b0 : decide (57 < (bt a0 x3_2)) = false := decide_eq_false c14
          clear c14
          have H' := Aside0.mk H
          clear H
          have p11 : 0 ≤ (x3_2 : Int) := odt
          have q11 : x3_2 < (a0.size : Int) := odt
          have hx11 := bt_at a0 x3_2
          replace p11 := eq_true p11
          replace q11 := eq_true q11
          have p13 : 0 ≤ (x3_2 : Int) := odt
          have q13 : x3_2 < (a0.size : Int) := odt
          have hx13 := bt_at a0 x3_2
          replace p13 := eq_true p13
          replace q13 := eq_true q13
          go_wp2
          go_roundg k2
          case measure => have := HJ1.out; have := HK2.out; omega
          case rel => exact ⟨(wrap64 (x3_2 + 1)), orf, H', ⟨by have := HJ1.out; have := HK2.out; omega⟩, by repeat (first | exact Drawn0.refl _ | apply Drawn0.step)⟩
       ·rw [if_neg c10] at H
        exact absurd H (by simp)
      ·rw [if_neg c9] at H
       have c9b0 : decide (x3_2 < (a0.size : Int)) = false := decide_eq_false c9
       clear c9
       obtain rfl := Option.some.inj H
       go_wp2
       go_ret
       exact ⟨by first | rfl | (simp; done) | (simp [*]; done), by repeat (first | exact Drawn0.refl _ | apply Drawn0.step)⟩

/-! ### spec_Blank: function 47 -/
def spec_Blank.f (a0 : Int) : Option (Bool) := if a0 = 32 then (some true) else (if a0 = 9 then (some true) else (if a0 = 10 then (some true) else (if a0 = 13 then (some true) else (if a0 = 12 then (some true) else (some (a0 == 11))))))
set_option maxHeartbeats 8000000 in
set_option maxRecDepth 100000 in
theorem spec_Blank.calls (a0 : Int) (r : Bool) (w : World) (h : spec_Blank.f a0 = some r) :
  Calls Tryz.prog 47 #[.int .u8 a0] w fun e w' => e = .returned (.bool r) ∧ Drawn0 w w' := by
 have H : (if a0 = 32 then (some true) else (if a0 = 9 then (some true) else (if a0 = 10 then (some true) else (if a0 = 13 then (some true) else (if a0 = 12 then (some true) else (some (a0 == 11))))))) = some r := h
 clear h
 by_cases c2 : a0 = 32
 ·rw [if_pos c2] at H
  have c2b0 : (a0 == 32) = true := beq_iff_eq.mpr c2
  have c2b1 : (a0 != 32) = false := bne_eq_false_iff_eq.mpr c2
  clear c2
  obtain rfl := Option.some.inj H
  go_enter Tryz.func47, Tryz.ntmps47
  go_wp2
  go_ret
  exact ⟨by first | rfl | (simp; done) | (simp [*]; done), by repeat (first | exact Drawn0.refl _ | apply Drawn0.step)⟩
 ·rw [if_neg c2] at H
  have c2b0 : (a0 == 32) = false := beq_eq_false_iff_ne.mpr c2
  have c2b1 : (a0 != 32) = true := bne_iff_ne.mpr c2
  by_cases c3 : a0 = 9
  ·rw [if_pos c3] at H
   have c3b0 : (a0 == 9) = true := beq_iff_eq.mpr c3
   have c3b1 : (a0 != 9) = false := bne_eq_false_iff_eq.mpr c3
   clear c3
   obtain rfl := Option.some.inj H
   go_enter Tryz.func47, Tryz.ntmps47
   go_wp2
   go_ret
   exact ⟨by first | rfl | (simp; done) | (simp [*]; done), by repeat (first | exact Drawn0.refl _ | apply Drawn0.step)⟩
  ·rw [if_neg c3] at H
   have c3b0 : (a0 == 9) = false := beq_eq_false_iff_ne.mpr c3
   have c3b1 : (a0 != 9) = true := bne_iff_ne.mpr c3
   by_cases c4 : a0 = 10
   ·rw [if_pos c4] at H
    have c4b0 : (a0 == 10) = true := beq_iff_eq.mpr c4
    have c4b1 : (a0 != 10) = false := bne_eq_false_iff_eq.mpr c4
    clear c4
    obtain rfl := Option.some.inj H
    go_enter Tryz.func47, Tryz.ntmps47
    go_wp2
    go_ret
    exact ⟨by first | rfl | (simp; done) | (simp [*]; done), by repeat (first | exact Drawn0.refl _ | apply Drawn0.step)⟩
   ·rw [if_neg c4] at H
    have c4b0 : (a0 == 10) = false := beq_eq_false_iff_ne.mpr c4
    have c4b1 : (a0 != 10) = true := bne_iff_ne.mpr c4
    by_cases c5 : a0 = 13
    ·rw [if_pos c5] at H
     have c5b0 : (a0 == 13) = true := beq_iff_eq.mpr c5
     have c5b1 : (a0 != 13) = false := bne_eq_false_iff_eq.mpr c5
     clear c5
     obtain rfl := Option.some.inj H
     go_enter Tryz.func47, Tryz.ntmps47
     go_wp2
     go_ret
     exact ⟨by first | rfl | (simp; done) | (simp [*]; done), by repeat (first | exact Drawn0.refl _ | apply Drawn0.step)⟩
    ·rw [if_neg c5] at H
     have c5b0 : (a0 == 13) = false := beq_eq_false_iff_ne.mpr c5
     have c5b1 : (a0 != 13) = true := bne_iff_ne.mpr c5
     by_cases c6 : a0 = 12
     ·rw [if_pos c6] at H
      have c6b0 : (a0 == 12) = true := beq_iff_eq.mpr c6
      have c6b1 : (a0 != 12) = false := bne_eq_false_iff_eq.mpr c6
      clear c6
      obtain rfl := Option.some.inj H
      go_enter Tryz.func47, Tryz.ntmps47
      go_wp2
      go_ret
      exact ⟨by first | rfl | (simp; done) | (simp [*]; done), by repeat (first | exact Drawn0.refl _ | apply Drawn0.step)⟩
     ·rw [if_neg c6] at H
      have c6b0 : (a0 == 12) = false := beq_eq_false_iff_ne.mpr c6
      have c6b1 : (a0 != 12) = true := bne_iff_ne.mpr c6
      obtain rfl := Option.some.inj H
      go_enter Tryz.func47, Tryz.ntmps47
      go_wp2
      go_ret
      exact ⟨by first | rfl | (simp; done) | (simp [*]; done), by repeat (first | exact Drawn0.refl _ | apply Drawn0.step)⟩

end Go.Proofs.YtjglpjlbnmpdfaaGreatDoor.PFnModelAdd
