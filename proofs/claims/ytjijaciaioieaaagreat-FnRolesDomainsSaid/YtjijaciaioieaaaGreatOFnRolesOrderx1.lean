/- The machine side of laws.FnRolesOrder: each function of this text answers what its Lean function answers (written for this claim by a program of this session over the kit's print; no condition beyond what each theorem says). -/
import Derived.Test.YtjijaciaioieaaaGreatOFnRolesOrderx0
namespace Go.Proofs.YtjijaciaioieaaaGreat.PFnRolesOrder
open Go.RowKit Go.Proofs.YtjijaciaioieaaaGreatW.PrintWords Go.Proofs.YtjijaciaioieaaaGreatW.PrintLast Go.Proofs.YtjijaciaioieaaaGreatW.PrintMore
attribute [local go_sem] max2_int min2_int max_two min_two max_three min_three max_four min_four   -- for this text's walks alone
set_option linter.unusedVariables false
set_option linter.unusedSimpArgs false

/-! ### laws_zzFits26: function 21 -/
def laws_zzFits26.f (a0_0 : ByteArray) (a0_1 : ByteArray) (a0_2 : ByteArray) : Option (Bool) := if (a0_0.size : Int) > 2147483647 then (some false) else (if (a0_1.size : Int) > 2147483647 then (some false) else (if (a0_2.size : Int) > 2147483647 then (some false) else (some true)))
set_option maxHeartbeats 8000000 in
set_option maxRecDepth 100000 in
theorem laws_zzFits26.calls (a0_0 : ByteArray) (a0_1 : ByteArray) (a0_2 : ByteArray) (r : Bool) (w : World) (h : laws_zzFits26.f a0_0 a0_1 a0_2 = some r) :
  Calls Tryz.prog 21 #[.agg #[.string a0_0, .string a0_1, .string a0_2]] w fun e w' => e = .returned (.bool r) ∧ Below w.heap.size w w' := by
 have hu28 := Tryz.underlying28
 have HB := Aside0.mk (Below.refl w.heap.size w)
 have H : (if (a0_0.size : Int) > 2147483647 then (some false) else (if (a0_1.size : Int) > 2147483647 then (some false) else (if (a0_2.size : Int) > 2147483647 then (some false) else (some true)))) = some r := h
 clear h
 by_cases c2 : (a0_0.size : Int) > 2147483647
 ·rw [if_pos c2] at H
  have c2b0 : decide (2147483647 < (a0_0.size : Int)) = true := decide_eq_true c2
  have c2b1 : decide (2147483647 < a0_0.size) = true := decide_eq_true (by omega)
  clear c2
  obtain rfl := Option.some.inj H
  go_enter Tryz.func21, Tryz.ntmps21
  go_wp2_with (first | ((with_reducible refine gate_dst (N := 1) rfl ?_); refine box_event ?hg (N := 1) ?hd (cs := #[.string a0_0, .string a0_1, .string a0_2]) (t := 28) ?hr ?_; (case hd => rfl); (case hg => rfl); (case hr => first | (go_simp; done) | (go_simp; rfl)); intro gb101 hg w3 hbox hb; have n0_ := Aside0.mk (below_step (by repeat (first | (with_reducible first | exact HB.out | apply below_alloc | apply pw_below_drewN | apply below_drew1) | exact HB.out)) hb); have n1_ := Aside0.mk (hbox); have n2_ := Aside0.mk ((by rw [hg]; exact (below_size (by repeat (first | (with_reducible first | exact HB.out | apply below_alloc | apply pw_below_drewN | apply below_drew1) | exact HB.out))) : w.heap.size ≤ gb101)); have n3_ := Aside0.mk ((by rw [hg]; exact (below_size (by repeat (first | (with_reducible first | exact HB.out | apply below_alloc | apply pw_below_drewN | apply below_drew1) | exact HB.out))) : w.heap.size ≤ gb101)); clear HB; have HB := n0_; have BK101 := n1_; have GW101 := n2_; have GE101 := n3_; clear n0_ n1_ n2_ n3_; clear hb hbox hg; have hcz4_0 : w3.cell? ⟨gb101, 0, none⟩ = some (.string a0_0) := (blk_cell BK101.out 0).trans rfl; have hcz4_1 : w3.cell? ⟨gb101, 1, none⟩ = some (.string a0_1) := (blk_cell BK101.out 1).trans rfl; have hcz4_2 : w3.cell? ⟨gb101, 2, none⟩ = some (.string a0_2) := (blk_cell BK101.out 2).trans rfl; have hfz4_0 := blk_frozen BK101.out 0; have hfz4_1 := blk_frozen BK101.out 1; have hfz4_2 := blk_frozen BK101.out 2))
  go_ret
  exact ⟨by first | rfl | (simp [errW_none, errW_some] <;> rfl) | (simp [*, errW_none, errW_some] <;> rfl), by repeat (first | (with_reducible first | exact HB.out | apply below_alloc | apply pw_below_drewN | apply below_drew1 | refine below_set ?_ GE101.out) | exact HB.out)⟩
 ·rw [if_neg c2] at H
  have c2b0 : decide (2147483647 < (a0_0.size : Int)) = false := decide_eq_false c2
  have c2b1 : decide (2147483647 < a0_0.size) = false := decide_eq_false (by omega)
  clear c2
  by_cases c5 : (a0_1.size : Int) > 2147483647
  ·rw [if_pos c5] at H
   have c5b0 : decide (2147483647 < (a0_1.size : Int)) = true := decide_eq_true c5
   have c5b1 : decide (2147483647 < a0_1.size) = true := decide_eq_true (by omega)
   clear c5
   obtain rfl := Option.some.inj H
   go_enter Tryz.func21, Tryz.ntmps21
   go_wp2_with (first | ((with_reducible refine gate_dst (N := 1) rfl ?_); refine box_event ?hg (N := 1) ?hd (cs := #[.string a0_0, .string a0_1, .string a0_2]) (t := 28) ?hr ?_; (case hd => rfl); (case hg => rfl); (case hr => first | (go_simp; done) | (go_simp; rfl)); intro gb101 hg w6 hbox hb; have n0_ := Aside0.mk (below_step (by repeat (first | (with_reducible first | exact HB.out | apply below_alloc | apply pw_below_drewN | apply below_drew1) | exact HB.out)) hb); have n1_ := Aside0.mk (hbox); have n2_ := Aside0.mk ((by rw [hg]; exact (below_size (by repeat (first | (with_reducible first | exact HB.out | apply below_alloc | apply pw_below_drewN | apply below_drew1) | exact HB.out))) : w.heap.size ≤ gb101)); have n3_ := Aside0.mk ((by rw [hg]; exact (below_size (by repeat (first | (with_reducible first | exact HB.out | apply below_alloc | apply pw_below_drewN | apply below_drew1) | exact HB.out))) : w.heap.size ≤ gb101)); clear HB; have HB := n0_; have BK101 := n1_; have GW101 := n2_; have GE101 := n3_; clear n0_ n1_ n2_ n3_; clear hb hbox hg; have hcz7_0 : w6.cell? ⟨gb101, 0, none⟩ = some (.string a0_0) := (blk_cell BK101.out 0).trans rfl; have hcz7_1 : w6.cell? ⟨gb101, 1, none⟩ = some (.string a0_1) := (blk_cell BK101.out 1).trans rfl; have hcz7_2 : w6.cell? ⟨gb101, 2, none⟩ = some (.string a0_2) := (blk_cell BK101.out 2).trans rfl; have hfz7_0 := blk_frozen BK101.out 0; have hfz7_1 := blk_frozen BK101.out 1; have hfz7_2 := blk_frozen BK101.out 2))
   go_ret
   exact ⟨by first | rfl | (simp [errW_none, errW_some] <;> rfl) | (simp [*, errW_none, errW_some] <;> rfl), by repeat (first | (with_reducible first | exact HB.out | apply below_alloc | apply pw_below_drewN | apply below_drew1 | refine below_set ?_ GE101.out) | exact HB.out)⟩
  ·rw [if_neg c5] at H
   have c5b0 : decide (2147483647 < (a0_1.size : Int)) = false := decide_eq_false c5
   have c5b1 : decide (2147483647 < a0_1.size) = false := decide_eq_false (by omega)
   clear c5
   by_cases c8 : (a0_2.size : Int) > 2147483647
   ·rw [if_pos c8] at H
    have c8b0 : decide (2147483647 < (a0_2.size : Int)) = true := decide_eq_true c8
    have c8b1 : decide (2147483647 < a0_2.size) = true := decide_eq_true (by omega)
    clear c8
    obtain rfl := Option.some.inj H
    go_enter Tryz.func21, Tryz.ntmps21
    go_wp2_with (first | ((with_reducible refine gate_dst (N := 1) rfl ?_); refine box_event ?hg (N := 1) ?hd (cs := #[.string a0_0, .string a0_1, .string a0_2]) (t := 28) ?hr ?_; (case hd => rfl); (case hg => rfl); (case hr => first | (go_simp; done) | (go_simp; rfl)); intro gb101 hg w9 hbox hb; have n0_ := Aside0.mk (below_step (by repeat (first | (with_reducible first | exact HB.out | apply below_alloc | apply pw_below_drewN | apply below_drew1) | exact HB.out)) hb); have n1_ := Aside0.mk (hbox); have n2_ := Aside0.mk ((by rw [hg]; exact (below_size (by repeat (first | (with_reducible first | exact HB.out | apply below_alloc | apply pw_below_drewN | apply below_drew1) | exact HB.out))) : w.heap.size ≤ gb101)); have n3_ := Aside0.mk ((by rw [hg]; exact (below_size (by repeat (first | (with_reducible first | exact HB.out | apply below_alloc | apply pw_below_drewN | apply below_drew1) | exact HB.out))) : w.heap.size ≤ gb101)); clear HB; have HB := n0_; have BK101 := n1_; have GW101 := n2_; have GE101 := n3_; clear n0_ n1_ n2_ n3_; clear hb hbox hg; have hcz10_0 : w9.cell? ⟨gb101, 0, none⟩ = some (.string a0_0) := (blk_cell BK101.out 0).trans rfl; have hcz10_1 : w9.cell? ⟨gb101, 1, none⟩ = some (.string a0_1) := (blk_cell BK101.out 1).trans rfl; have hcz10_2 : w9.cell? ⟨gb101, 2, none⟩ = some (.string a0_2) := (blk_cell BK101.out 2).trans rfl; have hfz10_0 := blk_frozen BK101.out 0; have hfz10_1 := blk_frozen BK101.out 1; have hfz10_2 := blk_frozen BK101.out 2))
    go_ret
    exact ⟨by first | rfl | (simp [errW_none, errW_some] <;> rfl) | (simp [*, errW_none, errW_some] <;> rfl), by repeat (first | (with_reducible first | exact HB.out | apply below_alloc | apply pw_below_drewN | apply below_drew1 | refine below_set ?_ GE101.out) | exact HB.out)⟩
   ·rw [if_neg c8] at H
    have c8b0 : decide (2147483647 < (a0_2.size : Int)) = false := decide_eq_false c8
    have c8b1 : decide (2147483647 < a0_2.size) = false := decide_eq_false (by omega)
    clear c8
    obtain rfl := Option.some.inj H
    go_enter Tryz.func21, Tryz.ntmps21
    go_wp2_with (first | ((with_reducible refine gate_dst (N := 1) rfl ?_); refine box_event ?hg (N := 1) ?hd (cs := #[.string a0_0, .string a0_1, .string a0_2]) (t := 28) ?hr ?_; (case hd => rfl); (case hg => rfl); (case hr => first | (go_simp; done) | (go_simp; rfl)); intro gb101 hg w11 hbox hb; have n0_ := Aside0.mk (below_step (by repeat (first | (with_reducible first | exact HB.out | apply below_alloc | apply pw_below_drewN | apply below_drew1) | exact HB.out)) hb); have n1_ := Aside0.mk (hbox); have n2_ := Aside0.mk ((by rw [hg]; exact (below_size (by repeat (first | (with_reducible first | exact HB.out | apply below_alloc | apply pw_below_drewN | apply below_drew1) | exact HB.out))) : w.heap.size ≤ gb101)); have n3_ := Aside0.mk ((by rw [hg]; exact (below_size (by repeat (first | (with_reducible first | exact HB.out | apply below_alloc | apply pw_below_drewN | apply below_drew1) | exact HB.out))) : w.heap.size ≤ gb101)); clear HB; have HB := n0_; have BK101 := n1_; have GW101 := n2_; have GE101 := n3_; clear n0_ n1_ n2_ n3_; clear hb hbox hg; have hcz12_0 : w11.cell? ⟨gb101, 0, none⟩ = some (.string a0_0) := (blk_cell BK101.out 0).trans rfl; have hcz12_1 : w11.cell? ⟨gb101, 1, none⟩ = some (.string a0_1) := (blk_cell BK101.out 1).trans rfl; have hcz12_2 : w11.cell? ⟨gb101, 2, none⟩ = some (.string a0_2) := (blk_cell BK101.out 2).trans rfl; have hfz12_0 := blk_frozen BK101.out 0; have hfz12_1 := blk_frozen BK101.out 1; have hfz12_2 := blk_frozen BK101.out 2))
    go_ret
    exact ⟨by first | rfl | (simp [errW_none, errW_some] <;> rfl) | (simp [*, errW_none, errW_some] <;> rfl), by repeat (first | (with_reducible first | exact HB.out | apply below_alloc | apply pw_below_drewN | apply below_drew1 | refine below_set ?_ GE101.out) | exact HB.out)⟩

/-! ### laws_zzFits25: function 9 -/
def laws_zzFits25.l0 : Nat → List (S28) → Int → Int → Option (Bool)
 | 0, _, _, _ => none
 | k + 1, x8, x9, x10 => if x10 < x9 then (if 0 ≤ x10 then (if x10 < (x8.length : Int) then ((laws_zzFits26.f ((rd_T28 x8 x10).f0) ((rd_T28 x8 x10).f1) ((rd_T28 x8 x10).f2)).bind fun t104 => (if t104 = true then (laws_zzFits25.l0 k x8 x9 (wrap64 (x10 + 1))) else (some false))) else (none)) else (none)) else (some true)
def laws_zzFits25.f (k : Nat) (l0 : List (S28)) : Option (Bool) := if (l0.length : Int) > 2147483647 then (some false) else (laws_zzFits25.l0 k l0 (l0.length : Int) 0)
theorem laws_zzFits25.mono_l : ∀ k, (∀ y0 y1 y2, LeO (laws_zzFits25.l0 k y0 y1 y2) (laws_zzFits25.l0 (k + 1) y0 y1 y2))
 | 0 => fun _ _ _ r h => by simp [laws_zzFits25.l0] at h
 | k + 1 => by
  have ih0 := laws_zzFits25.mono_l k
  ·intro y0 y1 y2
   unfold laws_zzFits25.l0
   repeat' first
   | (with_reducible exact ih0 _ _ _)
   | (with_reducible exact LeO.refl _)
   | (with_reducible exact LeO.none _)
   | (with_reducible refine LeO.ite ?_ ?_)
   | (with_reducible refine LeO.bind ?_ (fun _ => ?_))
   | exact ih0 _ _ _
   | exact LeO.none _
   | refine LeO.ite ?_ ?_
   | refine LeO.bind ?_ (fun _ => ?_)
theorem laws_zzFits25.mono : ∀ a0 k, LeO (laws_zzFits25.f k a0) (laws_zzFits25.f (k + 1) a0) := by
 intro a0 k
 have ih0 := laws_zzFits25.mono_l k
 unfold laws_zzFits25.f
 repeat' first
   | (with_reducible exact ih0 _ _ _)
   | (with_reducible exact LeO.refl _)
   | (with_reducible exact LeO.none _)
   | (with_reducible refine LeO.ite ?_ ?_)
   | (with_reducible refine LeO.bind ?_ (fun _ => ?_))
   | exact ih0 _ _ _
   | exact LeO.none _
   | refine LeO.ite ?_ ?_
   | refine LeO.bind ?_ (fun _ => ?_)
set_option maxHeartbeats 8000000 in
set_option maxRecDepth 100000 in
theorem laws_zzFits25.calls (k : Nat) (A0 : Option Addr) (c0 : Nat) (l0 : List (S28)) (r : Bool) (w : World) (hr0 : Kd.C k28 w A0 l0.length l0) (hc0 : l0.length ≤ c0) (h : laws_zzFits25.f k l0 = some r) :
  Calls Tryz.prog 9 #[.slice A0 l0.length c0] w fun e w' => e = .returned (.bool r) ∧ Below w.heap.size w w' := by
 have hu28 := Tryz.underlying28
 have HR0 := Aside0.mk hr0
 have HC0 := Aside0.mk hc0
 clear hr0 hc0
 have HB := Aside0.mk (Below.refl w.heap.size w)
 have H : (if (l0.length : Int) > 2147483647 then (some false) else (laws_zzFits25.l0 k l0 (l0.length : Int) 0)) = some r := h
 clear h
 by_cases c2 : (l0.length : Int) > 2147483647
 ·rw [if_pos c2] at H
  have c2b0 : decide (2147483647 < (l0.length : Int)) = true := decide_eq_true c2
  have c2b1 : decide (2147483647 < l0.length) = true := decide_eq_true (by omega)
  clear c2
  obtain rfl := Option.some.inj H
  go_enter Tryz.func9, Tryz.ntmps9
  go_wp2
  go_ret
  exact ⟨by first | rfl | (simp [errW_none, errW_some] <;> rfl) | (simp [*, errW_none, errW_some] <;> rfl), by repeat (first | (with_reducible first | exact HB.out | apply below_alloc | apply pw_below_drewN | apply below_drew1) | exact HB.out)⟩
 ·rw [if_neg c2] at H
  have c2b0 : decide (2147483647 < (l0.length : Int)) = false := decide_eq_false c2
  have c2b1 : decide (2147483647 < l0.length) = false := decide_eq_false (by omega)
  clear c2
  have H' := Aside0.mk H
  clear H
  go_enter Tryz.func9, Tryz.ntmps9
  go_wp2
  go_loopg [10] k (fun kq v10 w' => ∃ (x10_1 : Int), v10 = .int .i64 x10_1 ∧ Aside0 (laws_zzFits25.l0 kq l0 (l0.length : Int) x10_1 = some r) ∧ Aside0 (kq ≤ k) ∧ Aside0 (Below w.heap.size w w'))
  case atStart => exact ⟨(0), (by first | rfl | (simp; done) | (simp [*]; done)), H', ⟨Nat.le_refl _⟩, ⟨by repeat (first | (with_reducible first | exact HB.out | apply below_alloc | apply pw_below_drewN | apply below_drew1) | exact HB.out)⟩⟩
  case round =>
   clear H'
   try clear c2
   try clear c2b0
   try clear c2b1
   try clear p2
   obtain ⟨x10_1, rfl, HA, HK1, HB⟩ := hrel
   cases gk with
   | zero => exact absurd HA.out (by simp [laws_zzFits25.l0])
   | succ k1 =>
    have H := HA.out
    clear HA
    simp only [laws_zzFits25.l0] at H
    by_cases c3 : x10_1 < (l0.length : Int)
    ·rw [if_pos c3] at H
     have c3b0 : decide (x10_1 < (l0.length : Int)) = true := decide_eq_true c3
     clear c3
     by_cases c4 : 0 ≤ x10_1
     ·rw [if_pos c4] at H
      have c4b0 : decide (0 ≤ x10_1) = true := decide_eq_true c4
      clear c4
      by_cases c5 : x10_1 < (l0.length : Int)
      ·rw [if_pos c5] at H
       have c5b0 : decide (x10_1 < (l0.length : Int)) = true := decide_eq_true c5
       clear c5
       replace H := Option.bind_eq_some_iff.mp H
       obtain ⟨t104, A60, H⟩ := H
       replace H : (if t104 = true then (laws_zzFits25.l0 k1 l0 (l0.length : Int) (wrap64 (x10_1 + 1))) else (some false)) = some r := H
       have A6 := Aside0.mk A60
       clear A60
       by_cases c7 : t104 = true
       ·subst c7
        have H1 : (laws_zzFits25.l0 k1 l0 (l0.length : Int) (wrap64 (x10_1 + 1))) = some r := by rw [if_pos rfl] at H; exact H
        clear H
        have H := H1
        clear H1
        have H' := Aside0.mk H
        clear H
        have p102 : 0 ≤ (x10_1 : Int) := of_decide_eq_true (by first | (with_reducible assumption) | assumption)
        have q102 : x10_1 < (l0.length : Int) := of_decide_eq_true (by first | (with_reducible assumption) | assumption)
        obtain ⟨ad102, e102, hx102_0, hx102_1, hx102_2⟩ := at_T28 HR0.out x10_1 p102 q102
        cases e102
        replace hx102_0 := (HB.out.cell (World.block_lt_of_cell? w _ hx102_0)).trans hx102_0
        replace hx102_1 := (HB.out.cell (World.block_lt_of_cell? w _ hx102_1)).trans hx102_1
        replace hx102_2 := (HB.out.cell (World.block_lt_of_cell? w _ hx102_2)).trans hx102_2
        replace p102 := eq_true p102
        replace q102 := eq_true q102
        go_wp2_with (first | ((with_reducible refine gate_dst (N := 4) rfl ?_); refine box_event ?hg (N := 4) ?hd (cs := #[.string (⟨#[]⟩ : ByteArray), .string (⟨#[]⟩ : ByteArray), .string (⟨#[]⟩ : ByteArray)]) (t := 28) ?hr ?_; (case hd => rfl); (case hg => rfl); (case hr => first | (go_simp; done) | (go_simp; rfl)); intro gb103 hg w8 hbox hb; have n0_ := Aside0.mk (below_step (by repeat (first | (with_reducible first | exact HB.out | apply below_alloc | apply pw_below_drewN | apply below_drew1) | exact HB.out)) hb); have n1_ := Aside0.mk (hbox); have n2_ := Aside0.mk ((by rw [hg]; exact (below_size (by repeat (first | (with_reducible first | exact HB.out | apply below_alloc | apply pw_below_drewN | apply below_drew1) | exact HB.out))) : w.heap.size ≤ gb103)); have n3_ := Aside0.mk ((by rw [hg]; exact (below_size (by repeat (first | (with_reducible first | exact HB.out | apply below_alloc | apply pw_below_drewN | apply below_drew1) | exact HB.out))) : w.heap.size ≤ gb103)); clear HB; have HB := n0_; have BK103 := n1_; have GW103 := n2_; have GE103 := n3_; clear n0_ n1_ n2_ n3_; clear hb hbox hg; have hcz9_0 : w8.cell? ⟨gb103, 0, none⟩ = some (.string (⟨#[]⟩ : ByteArray)) := (blk_cell BK103.out 0).trans rfl; have hcz9_1 : w8.cell? ⟨gb103, 1, none⟩ = some (.string (⟨#[]⟩ : ByteArray)) := (blk_cell BK103.out 1).trans rfl; have hcz9_2 : w8.cell? ⟨gb103, 2, none⟩ = some (.string (⟨#[]⟩ : ByteArray)) := (blk_cell BK103.out 2).trans rfl; have hfz9_0 := blk_frozen BK103.out 0; have hfz9_1 := blk_frozen BK103.out 1; have hfz9_2 := blk_frozen BK103.out 2) | ((with_reducible refine gate_callee (f := 21) rfl ?_); refine goesL_ (some 15) rfl rfl Tryz.func21 (by kernel_rfl) rfl #[.agg #[.string ((rd_T28 l0 x10_1).f0), .string ((rd_T28 l0 x10_1).f1), .string ((rd_T28 l0 x10_1).f2)]] rfl (by (try simp only [List.map_toArray, List.map_cons, List.map_nil]); first | done | rfl | (simp only [List.length_drop, List.length_take]; rfl)) ?_; (with_reducible refine (laws_zzFits26.calls ((rd_T28 l0 x10_1).f0) ((rd_T28 l0 x10_1).f1) ((rd_T28 l0 x10_1).f2) true _ A6.out).mono ?_); rintro e w10 ⟨rfl, hb⟩; refine ⟨_, rfl, ?_⟩; have n0_ := Aside0.mk (blk_below (g := gb103) (o := .cells #[.string ((rd_T28 l0 x10_1).f0), .string ((rd_T28 l0 x10_1).f1), .string ((rd_T28 l0 x10_1).f2)] 28 (0, 0)) (by (with_reducible repeat (first | refine blk_drewN ?_ _ | refine blk_drew ?_ | refine blk_alloc ?_ _)); refine blk_put (cs := #[.string ((rd_T28 l0 x10_1).f0), .string ((rd_T28 l0 x10_1).f1), .string (⟨#[]⟩ : ByteArray)]) ?_ 2 _ rfl; (with_reducible repeat (first | refine blk_drewN ?_ _ | refine blk_drew ?_ | refine blk_alloc ?_ _)); refine blk_put (cs := #[.string ((rd_T28 l0 x10_1).f0), .string (⟨#[]⟩ : ByteArray), .string (⟨#[]⟩ : ByteArray)]) ?_ 1 _ rfl; (with_reducible repeat (first | refine blk_drewN ?_ _ | refine blk_drew ?_ | refine blk_alloc ?_ _)); refine blk_put (cs := #[.string (⟨#[]⟩ : ByteArray), .string (⟨#[]⟩ : ByteArray), .string (⟨#[]⟩ : ByteArray)]) ?_ 0 _ rfl; (with_reducible repeat (first | refine blk_drewN ?_ _ | refine blk_drew ?_ | refine blk_alloc ?_ _)); exact BK103.out) hb); have n1_ := Aside0.mk (below_step (by repeat (first | (with_reducible first | exact HB.out | apply below_alloc | apply pw_below_drewN | apply below_drew1 | refine below_set ?_ GE103.out) | exact HB.out)) hb); clear BK103; clear HB; have BK103 := n0_; have HB := n1_; clear n0_ n1_; (try clear hb); (try clear hb2); (try clear hk); (try clear hi)))
        go_roundg k1
        case measure => have := HK1.out; omega
        case rel => exact ⟨(wrap64 (x10_1 + 1)), (by first | rfl | (simp; done) | (simp [*]; done)), H', ⟨by have := HK1.out; omega⟩, ⟨by repeat (first | (with_reducible first | exact HB.out | apply below_alloc | apply pw_below_drewN | apply below_drew1 | refine below_set ?_ GE103.out) | exact HB.out)⟩⟩
       ·replace c7 := Bool.eq_false_iff.mpr c7
        subst c7
        have H1 : (some false) = some r := by rw [if_neg (show ¬ (false = true) by decide)] at H; exact H
        clear H
        have H := H1
        clear H1
        obtain rfl := Option.some.inj H
        have p102 : 0 ≤ (x10_1 : Int) := of_decide_eq_true (by first | (with_reducible assumption) | assumption)
        have q102 : x10_1 < (l0.length : Int) := of_decide_eq_true (by first | (with_reducible assumption) | assumption)
        obtain ⟨ad102, e102, hx102_0, hx102_1, hx102_2⟩ := at_T28 HR0.out x10_1 p102 q102
        cases e102
        replace hx102_0 := (HB.out.cell (World.block_lt_of_cell? w _ hx102_0)).trans hx102_0
        replace hx102_1 := (HB.out.cell (World.block_lt_of_cell? w _ hx102_1)).trans hx102_1
        replace hx102_2 := (HB.out.cell (World.block_lt_of_cell? w _ hx102_2)).trans hx102_2
        replace p102 := eq_true p102
        replace q102 := eq_true q102
        go_wp2_with (first | ((with_reducible refine gate_dst (N := 4) rfl ?_); refine box_event ?hg (N := 4) ?hd (cs := #[.string (⟨#[]⟩ : ByteArray), .string (⟨#[]⟩ : ByteArray), .string (⟨#[]⟩ : ByteArray)]) (t := 28) ?hr ?_; (case hd => rfl); (case hg => rfl); (case hr => first | (go_simp; done) | (go_simp; rfl)); intro gb103 hg w11 hbox hb; have n0_ := Aside0.mk (below_step (by repeat (first | (with_reducible first | exact HB.out | apply below_alloc | apply pw_below_drewN | apply below_drew1) | exact HB.out)) hb); have n1_ := Aside0.mk (hbox); have n2_ := Aside0.mk ((by rw [hg]; exact (below_size (by repeat (first | (with_reducible first | exact HB.out | apply below_alloc | apply pw_below_drewN | apply below_drew1) | exact HB.out))) : w.heap.size ≤ gb103)); have n3_ := Aside0.mk ((by rw [hg]; exact (below_size (by repeat (first | (with_reducible first | exact HB.out | apply below_alloc | apply pw_below_drewN | apply below_drew1) | exact HB.out))) : w.heap.size ≤ gb103)); clear HB; have HB := n0_; have BK103 := n1_; have GW103 := n2_; have GE103 := n3_; clear n0_ n1_ n2_ n3_; clear hb hbox hg; have hcz12_0 : w11.cell? ⟨gb103, 0, none⟩ = some (.string (⟨#[]⟩ : ByteArray)) := (blk_cell BK103.out 0).trans rfl; have hcz12_1 : w11.cell? ⟨gb103, 1, none⟩ = some (.string (⟨#[]⟩ : ByteArray)) := (blk_cell BK103.out 1).trans rfl; have hcz12_2 : w11.cell? ⟨gb103, 2, none⟩ = some (.string (⟨#[]⟩ : ByteArray)) := (blk_cell BK103.out 2).trans rfl; have hfz12_0 := blk_frozen BK103.out 0; have hfz12_1 := blk_frozen BK103.out 1; have hfz12_2 := blk_frozen BK103.out 2) | ((with_reducible refine gate_callee (f := 21) rfl ?_); refine goesL_ (some 15) rfl rfl Tryz.func21 (by kernel_rfl) rfl #[.agg #[.string ((rd_T28 l0 x10_1).f0), .string ((rd_T28 l0 x10_1).f1), .string ((rd_T28 l0 x10_1).f2)]] rfl (by (try simp only [List.map_toArray, List.map_cons, List.map_nil]); first | done | rfl | (simp only [List.length_drop, List.length_take]; rfl)) ?_; (with_reducible refine (laws_zzFits26.calls ((rd_T28 l0 x10_1).f0) ((rd_T28 l0 x10_1).f1) ((rd_T28 l0 x10_1).f2) false _ A6.out).mono ?_); rintro e w13 ⟨rfl, hb⟩; refine ⟨_, rfl, ?_⟩; have n0_ := Aside0.mk (blk_below (g := gb103) (o := .cells #[.string ((rd_T28 l0 x10_1).f0), .string ((rd_T28 l0 x10_1).f1), .string ((rd_T28 l0 x10_1).f2)] 28 (0, 0)) (by (with_reducible repeat (first | refine blk_drewN ?_ _ | refine blk_drew ?_ | refine blk_alloc ?_ _)); refine blk_put (cs := #[.string ((rd_T28 l0 x10_1).f0), .string ((rd_T28 l0 x10_1).f1), .string (⟨#[]⟩ : ByteArray)]) ?_ 2 _ rfl; (with_reducible repeat (first | refine blk_drewN ?_ _ | refine blk_drew ?_ | refine blk_alloc ?_ _)); refine blk_put (cs := #[.string ((rd_T28 l0 x10_1).f0), .string (⟨#[]⟩ : ByteArray), .string (⟨#[]⟩ : ByteArray)]) ?_ 1 _ rfl; (with_reducible repeat (first | refine blk_drewN ?_ _ | refine blk_drew ?_ | refine blk_alloc ?_ _)); refine blk_put (cs := #[.string (⟨#[]⟩ : ByteArray), .string (⟨#[]⟩ : ByteArray), .string (⟨#[]⟩ : ByteArray)]) ?_ 0 _ rfl; (with_reducible repeat (first | refine blk_drewN ?_ _ | refine blk_drew ?_ | refine blk_alloc ?_ _)); exact BK103.out) hb); have n1_ := Aside0.mk (below_step (by repeat (first | (with_reducible first | exact HB.out | apply below_alloc | apply pw_below_drewN | apply below_drew1 | refine below_set ?_ GE103.out) | exact HB.out)) hb); clear BK103; clear HB; have BK103 := n0_; have HB := n1_; clear n0_ n1_; (try clear hb); (try clear hb2); (try clear hk); (try clear hi)))
        go_ret
        exact ⟨by first | rfl | (simp [errW_none, errW_some] <;> rfl) | (simp [*, errW_none, errW_some] <;> rfl), by repeat (first | (with_reducible first | exact HB.out | apply below_alloc | apply pw_below_drewN | apply below_drew1 | refine below_set ?_ GE103.out) | exact HB.out)⟩
      ·rw [if_neg c5] at H
       exact absurd H (by simp)
     ·rw [if_neg c4] at H
      exact absurd H (by simp)
    ·rw [if_neg c3] at H
     have c3b0 : decide (x10_1 < (l0.length : Int)) = false := decide_eq_false c3
     clear c3
     obtain rfl := Option.some.inj H
     go_wp2
     go_ret
     exact ⟨by first | rfl | (simp [errW_none, errW_some] <;> rfl) | (simp [*, errW_none, errW_some] <;> rfl), by repeat (first | (with_reducible first | exact HB.out | apply below_alloc | apply pw_below_drewN | apply below_drew1) | exact HB.out)⟩

/-! ### spec_Label: function 22 -/
def spec_Label.l0 : Nat → ByteArray → Int → Option (Bool)
 | 0, _, _ => none
 | k + 1, x0, x3 => if x3 < (x0.size : Int) then (if 0 ≤ x3 then (if (bt x0 x3) ≥ 97 then (if (bt x0 x3) ≤ 122 then (spec_Label.l0 k x0 (wrap64 (x3 + 1))) else (if ((bt x0 x3) = 47) then (spec_Label.l0 k x0 (wrap64 (x3 + 1))) else (if x3 = 0 then (some false) else (if (bt x0 x3) < 48 then (if (bt x0 x3) = 42 then (spec_Label.l0 k x0 (wrap64 (x3 + 1))) else (some false)) else (if (bt x0 x3) > 57 then (if (bt x0 x3) = 42 then (spec_Label.l0 k x0 (wrap64 (x3 + 1))) else (some false)) else (spec_Label.l0 k x0 (wrap64 (x3 + 1)))))))) else (if ((bt x0 x3) = 47) then (spec_Label.l0 k x0 (wrap64 (x3 + 1))) else (if x3 = 0 then (some false) else (if (bt x0 x3) < 48 then (if (bt x0 x3) = 42 then (spec_Label.l0 k x0 (wrap64 (x3 + 1))) else (some false)) else (if (bt x0 x3) > 57 then (if (bt x0 x3) = 42 then (spec_Label.l0 k x0 (wrap64 (x3 + 1))) else (some false)) else (spec_Label.l0 k x0 (wrap64 (x3 + 1)))))))) else (none)) else (if x0.toList = ([] : List UInt8) then (some false) else (some (decide ((x0.size : Int) ≤ 20))))
def spec_Label.f (k : Nat) (a0 : ByteArray) : Option (Bool) := spec_Label.l0 k a0 0
theorem spec_Label.mono_l : ∀ k, (∀ y0 y1, LeO (spec_Label.l0 k y0 y1) (spec_Label.l0 (k + 1) y0 y1))
 | 0 => fun _ _ r h => by simp [spec_Label.l0] at h
 | k + 1 => by
  have ih0 := spec_Label.mono_l k
  ·intro y0 y1
   unfold spec_Label.l0
   repeat' first
   | (with_reducible exact ih0 _ _)
   | (with_reducible exact LeO.refl _)
   | (with_reducible exact LeO.none _)
   | (with_reducible refine LeO.ite ?_ ?_)
   | (with_reducible refine LeO.bind ?_ (fun _ => ?_))
   | exact ih0 _ _
   | exact LeO.none _
   | refine LeO.ite ?_ ?_
   | refine LeO.bind ?_ (fun _ => ?_)
theorem spec_Label.mono : ∀ a0 k, LeO (spec_Label.f k a0) (spec_Label.f (k + 1) a0) := by
 intro a0 k
 have ih0 := spec_Label.mono_l k
 unfold spec_Label.f
 repeat' first
   | (with_reducible exact ih0 _ _)
   | (with_reducible exact LeO.refl _)
   | (with_reducible exact LeO.none _)
   | (with_reducible refine LeO.ite ?_ ?_)
   | (with_reducible refine LeO.bind ?_ (fun _ => ?_))
   | exact ih0 _ _
   | exact LeO.none _
   | refine LeO.ite ?_ ?_
   | refine LeO.bind ?_ (fun _ => ?_)
set_option maxHeartbeats 8000000 in
set_option maxRecDepth 100000 in
theorem spec_Label.calls (k : Nat) (a0 : ByteArray) (r : Bool) (w : World) (h : spec_Label.f k a0 = some r) :
  Calls Tryz.prog 22 #[.string a0] w fun e w' => e = .returned (.bool r) ∧ Drawn0 w w' := by
 have H : (spec_Label.l0 k a0 0) = some r := h
 clear h
 have H' := Aside0.mk H
 clear H
 go_enter Tryz.func22, Tryz.ntmps22
 go_wp2
 go_loopg [3] k (fun kq v3 w' => ∃ (x3_1 : Int), v3 = .int .i64 x3_1 ∧ Aside0 (spec_Label.l0 kq a0 x3_1 = some r) ∧ Aside0 (kq ≤ k) ∧ Drawn0 w w')
 case atStart => exact ⟨(0), (by first | rfl | (simp; done) | (simp [*]; done)), H', ⟨Nat.le_refl _⟩, by repeat (first | exact Drawn0.refl _ | apply Drawn0.step)⟩
 case round =>
  clear H'
  obtain ⟨x3_1, rfl, HA, HK1, ⟨m1, rfl⟩⟩ := hrel
  cases gk with
  | zero => exact absurd HA.out (by simp [spec_Label.l0])
  | succ k1 =>
   have H := HA.out
   clear HA
   simp only [spec_Label.l0] at H
   by_cases c2 : x3_1 < (a0.size : Int)
   ·rw [if_pos c2] at H
    have c2b0 : decide (x3_1 < (a0.size : Int)) = true := decide_eq_true c2
    clear c2
    by_cases c3 : 0 ≤ x3_1
    ·rw [if_pos c3] at H
     have c3b0 : decide (0 ≤ x3_1) = true := decide_eq_true c3
     clear c3
     by_cases c5 : (bt a0 x3_1) ≥ 97
     ·rw [if_pos c5] at H
      have c5b0 : decide (97 ≤ (bt a0 x3_1)) = true := decide_eq_true c5
      clear c5
      by_cases c6 : (bt a0 x3_1) ≤ 122
      ·rw [if_pos c6] at H
       have c6b0 : decide ((bt a0 x3_1) ≤ 122) = true := decide_eq_true c6
       clear c6
       have H' := Aside0.mk H
       clear H
       have p4 : 0 ≤ (x3_1 : Int) := of_decide_eq_true (by first | (with_reducible assumption) | assumption)
       have q4 : x3_1 < (a0.size : Int) := of_decide_eq_true (by first | (with_reducible assumption) | assumption)
       have hx4 := bt_at a0 x3_1
       replace p4 := eq_true p4
       replace q4 := eq_true q4
       go_wp2
       go_roundg k1
       case measure => have := HK1.out; omega
       case rel => exact ⟨(wrap64 (x3_1 + 1)), (by first | rfl | (simp; done) | (simp [*]; done)), H', ⟨by have := HK1.out; omega⟩, by repeat (first | exact Drawn0.refl _ | apply Drawn0.step)⟩
      ·rw [if_neg c6] at H
       have c6b0 : decide ((bt a0 x3_1) ≤ 122) = false := decide_eq_false c6
       clear c6
       by_cases c7 : ((bt a0 x3_1) = 47)
       ·rw [if_pos c7] at H
        have c7b0 : ((bt a0 x3_1) == 47) = true := beq_iff_eq.mpr c7
        have c7b1 : ((bt a0 x3_1) != 47) = false := bne_eq_false_iff_eq.mpr c7
        clear c7
        have H' := Aside0.mk H
        clear H
        have p4 : 0 ≤ (x3_1 : Int) := of_decide_eq_true (by first | (with_reducible assumption) | assumption)
        have q4 : x3_1 < (a0.size : Int) := of_decide_eq_true (by first | (with_reducible assumption) | assumption)
        have hx4 := bt_at a0 x3_1
        replace p4 := eq_true p4
        replace q4 := eq_true q4
        go_wp2
        go_roundg k1
        case measure => have := HK1.out; omega
        case rel => exact ⟨(wrap64 (x3_1 + 1)), (by first | rfl | (simp; done) | (simp [*]; done)), H', ⟨by have := HK1.out; omega⟩, by repeat (first | exact Drawn0.refl _ | apply Drawn0.step)⟩
       ·rw [if_neg c7] at H
        have c7b0 : ((bt a0 x3_1) == 47) = false := beq_eq_false_iff_ne.mpr c7
        have c7b1 : ((bt a0 x3_1) != 47) = true := bne_iff_ne.mpr c7
        by_cases c8 : x3_1 = 0
        ·rw [if_pos c8] at H
         have c8b0 : (x3_1 == 0) = true := beq_iff_eq.mpr c8
         have c8b1 : (x3_1 != 0) = false := bne_eq_false_iff_eq.mpr c8
         clear c8
         obtain rfl := Option.some.inj H
         have p4 : 0 ≤ (x3_1 : Int) := of_decide_eq_true (by first | (with_reducible assumption) | assumption)
         have q4 : x3_1 < (a0.size : Int) := of_decide_eq_true (by first | (with_reducible assumption) | assumption)
         have hx4 := bt_at a0 x3_1
         replace p4 := eq_true p4
         replace q4 := eq_true q4
         go_wp2
         go_ret
         exact ⟨by first | rfl | (simp; done) | (simp [*]; done), by repeat (first | exact Drawn0.refl _ | apply Drawn0.step)⟩
        ·rw [if_neg c8] at H
         have c8b0 : (x3_1 == 0) = false := beq_eq_false_iff_ne.mpr c8
         have c8b1 : (x3_1 != 0) = true := bne_iff_ne.mpr c8
         by_cases c9 : (bt a0 x3_1) < 48
         ·rw [if_pos c9] at H
          have c9b0 : decide ((bt a0 x3_1) < 48) = true := decide_eq_true c9
          clear c9
          by_cases c10 : (bt a0 x3_1) = 42
          ·rw [if_pos c10] at H
           have c10b0 : ((bt a0 x3_1) == 42) = true := beq_iff_eq.mpr c10
           have c10b1 : ((bt a0 x3_1) != 42) = false := bne_eq_false_iff_eq.mpr c10
           clear c10
           have H' := Aside0.mk H
           clear H
           have p4 : 0 ≤ (x3_1 : Int) := of_decide_eq_true (by first | (with_reducible assumption) | assumption)
           have q4 : x3_1 < (a0.size : Int) := of_decide_eq_true (by first | (with_reducible assumption) | assumption)
           have hx4 := bt_at a0 x3_1
           replace p4 := eq_true p4
           replace q4 := eq_true q4
           go_wp2
           go_roundg k1
           case measure => have := HK1.out; omega
           case rel => exact ⟨(wrap64 (x3_1 + 1)), (by first | rfl | (simp; done) | (simp [*]; done)), H', ⟨by have := HK1.out; omega⟩, by repeat (first | exact Drawn0.refl _ | apply Drawn0.step)⟩
          ·rw [if_neg c10] at H
           have c10b0 : ((bt a0 x3_1) == 42) = false := beq_eq_false_iff_ne.mpr c10
           have c10b1 : ((bt a0 x3_1) != 42) = true := bne_iff_ne.mpr c10
           obtain rfl := Option.some.inj H
           have p4 : 0 ≤ (x3_1 : Int) := of_decide_eq_true (by first | (with_reducible assumption) | assumption)
           have q4 : x3_1 < (a0.size : Int) := of_decide_eq_true (by first | (with_reducible assumption) | assumption)
           have hx4 := bt_at a0 x3_1
           replace p4 := eq_true p4
           replace q4 := eq_true q4
           go_wp2
           go_ret
           exact ⟨by first | rfl | (simp; done) | (simp [*]; done), by repeat (first | exact Drawn0.refl _ | apply Drawn0.step)⟩
         ·rw [if_neg c9] at H
          have c9b0 : decide ((bt a0 x3_1) < 48) = false := decide_eq_false c9
          clear c9
          by_cases c11 : (bt a0 x3_1) > 57
          ·rw [if_pos c11] at H
           have c11b0 : decide (57 < (bt a0 x3_1)) = true := decide_eq_true c11
           clear c11
           by_cases c12 : (bt a0 x3_1) = 42
           ·rw [if_pos c12] at H
            have c12b0 : ((bt a0 x3_1) == 42) = true := beq_iff_eq.mpr c12
            have c12b1 : ((bt a0 x3_1) != 42) = false := bne_eq_false_iff_eq.mpr c12
            clear c12
            have H' := Aside0.mk H
            clear H
            have p4 : 0 ≤ (x3_1 : Int) := of_decide_eq_true (by first | (with_reducible assumption) | assumption)
            have q4 : x3_1 < (a0.size : Int) := of_decide_eq_true (by first | (with_reducible assumption) | assumption)
            have hx4 := bt_at a0 x3_1
            replace p4 := eq_true p4
            replace q4 := eq_true q4
            go_wp2
            go_roundg k1
            case measure => have := HK1.out; omega
            case rel => exact ⟨(wrap64 (x3_1 + 1)), (by first | rfl | (simp; done) | (simp [*]; done)), H', ⟨by have := HK1.out; omega⟩, by repeat (first | exact Drawn0.refl _ | apply Drawn0.step)⟩
           ·rw [if_neg c12] at H
            have c12b0 : ((bt a0 x3_1) == 42) = false := beq_eq_false_iff_ne.mpr c12
            have c12b1 : ((bt a0 x3_1) != 42) = true := bne_iff_ne.mpr c12
            obtain rfl := Option.some.inj H
            have p4 : 0 ≤ (x3_1 : Int) := of_decide_eq_true (by first | (with_reducible assumption) | assumption)
            have q4 : x3_1 < (a0.size : Int) := of_decide_eq_true (by first | (with_reducible assumption) | assumption)
            have hx4 := bt_at a0 x3_1
            replace p4 := eq_true p4
            replace q4 := eq_true q4
            go_wp2
            go_ret
            exact ⟨by first | rfl | (simp; done) | (simp [*]; done), by repeat (first | exact Drawn0.refl _ | apply Drawn0.step)⟩
          ·rw [if_neg c11] at H
           have c11b0 : decide (57 < (bt a0 x3_1)) = false := decide_eq_false c11
           clear c11
           have H' := Aside0.mk H
           clear H
           have p4 : 0 ≤ (x3_1 : Int) := of_decide_eq_true (by first | (with_reducible assumption) | assumption)
           have q4 : x3_1 < (a0.size : Int) := of_decide_eq_true (by first | (with_reducible assumption) | assumption)
           have hx4 := bt_at a0 x3_1
           replace p4 := eq_true p4
           replace q4 := eq_true q4
           go_wp2
           go_roundg k1
           case measure => have := HK1.out; omega
           case rel => exact ⟨(wrap64 (x3_1 + 1)), (by first | rfl | (simp; done) | (simp [*]; done)), H', ⟨by have := HK1.out; omega⟩, by repeat (first | exact Drawn0.refl _ | apply Drawn0.step)⟩
     ·rw [if_neg c5] at H
      have c5b0 : decide (97 ≤ (bt a0 x3_1)) = false := decide_eq_false c5
      clear c5
      by_cases c13 : ((bt a0 x3_1) = 47)
      ·rw [if_pos c13] at H
       have c13b0 : ((bt a0 x3_1) == 47) = true := beq_iff_eq.mpr c13
       have c13b1 : ((bt a0 x3_1) != 47) = false := bne_eq_false_iff_eq.mpr c13
       clear c13
       have H' := Aside0.mk H
       clear H
       have p4 : 0 ≤ (x3_1 : Int) := of_decide_eq_true (by first | (with_reducible assumption) | assumption)
       have q4 : x3_1 < (a0.size : Int) := of_decide_eq_true (by first | (with_reducible assumption) | assumption)
       have hx4 := bt_at a0 x3_1
       replace p4 := eq_true p4
       replace q4 := eq_true q4
       go_wp2
       go_roundg k1
       case measure => have := HK1.out; omega
       case rel => exact ⟨(wrap64 (x3_1 + 1)), (by first | rfl | (simp; done) | (simp [*]; done)), H', ⟨by have := HK1.out; omega⟩, by repeat (first | exact Drawn0.refl _ | apply Drawn0.step)⟩
      ·rw [if_neg c13] at H
       have c13b0 : ((bt a0 x3_1) == 47) = false := beq_eq_false_iff_ne.mpr c13
       have c13b1 : ((bt a0 x3_1) != 47) = true := bne_iff_ne.mpr c13
       by_cases c14 : x3_1 = 0
       ·rw [if_pos c14] at H
        have c14b0 : (x3_1 == 0) = true := beq_iff_eq.mpr c14
        have c14b1 : (x3_1 != 0) = false := bne_eq_false_iff_eq.mpr c14
        clear c14
        obtain rfl := Option.some.inj H
        have p4 : 0 ≤ (x3_1 : Int) := of_decide_eq_true (by first | (with_reducible assumption) | assumption)
        have q4 : x3_1 < (a0.size : Int) := of_decide_eq_true (by first | (with_reducible assumption) | assumption)
        have hx4 := bt_at a0 x3_1
        replace p4 := eq_true p4
        replace q4 := eq_true q4
        go_wp2
        go_ret
        exact ⟨by first | rfl | (simp; done) | (simp [*]; done), by repeat (first | exact Drawn0.refl _ | apply Drawn0.step)⟩
       ·rw [if_neg c14] at H
        have c14b0 : (x3_1 == 0) = false := beq_eq_false_iff_ne.mpr c14
        have c14b1 : (x3_1 != 0) = true := bne_iff_ne.mpr c14
        by_cases c15 : (bt a0 x3_1) < 48
        ·rw [if_pos c15] at H
         have c15b0 : decide ((bt a0 x3_1) < 48) = true := decide_eq_true c15
         clear c15
         by_cases c16 : (bt a0 x3_1) = 42
         ·rw [if_pos c16] at H
          have c16b0 : ((bt a0 x3_1) == 42) = true := beq_iff_eq.mpr c16
          have c16b1 : ((bt a0 x3_1) != 42) = false := bne_eq_false_iff_eq.mpr c16
          clear c16
          have H' := Aside0.mk H
          clear H
          have p4 : 0 ≤ (x3_1 : Int) := of_decide_eq_true (by first | (with_reducible assumption) | assumption)
          have q4 : x3_1 < (a0.size : Int) := of_decide_eq_true (by first | (with_reducible assumption) | assumption)
          have hx4 := bt_at a0 x3_1
          replace p4 := eq_true p4
          replace q4 := eq_true q4
          go_wp2
          go_roundg k1
          case measure => have := HK1.out; omega
          case rel => exact ⟨(wrap64 (x3_1 + 1)), (by first | rfl | (simp; done) | (simp [*]; done)), H', ⟨by have := HK1.out; omega⟩, by repeat (first | exact Drawn0.refl _ | apply Drawn0.step)⟩
         ·rw [if_neg c16] at H
          have c16b0 : ((bt a0 x3_1) == 42) = false := beq_eq_false_iff_ne.mpr c16
          have c16b1 : ((bt a0 x3_1) != 42) = true := bne_iff_ne.mpr c16
          obtain rfl := Option.some.inj H
          have p4 : 0 ≤ (x3_1 : Int) := of_decide_eq_true (by first | (with_reducible assumption) | assumption)
          have q4 : x3_1 < (a0.size : Int) := of_decide_eq_true (by first | (with_reducible assumption) | assumption)
          have hx4 := bt_at a0 x3_1
          replace p4 := eq_true p4
          replace q4 := eq_true q4
          go_wp2
          go_ret
          exact ⟨by first | rfl | (simp; done) | (simp [*]; done), by repeat (first | exact Drawn0.refl _ | apply Drawn0.step)⟩
        ·rw [if_neg c15] at H
         have c15b0 : decide ((bt a0 x3_1) < 48) = false := decide_eq_false c15
         clear c15
         by_cases c17 : (bt a0 x3_1) > 57
         ·rw [if_pos c17] at H
          have c17b0 : decide (57 < (bt a0 x3_1)) = true := decide_eq_true c17
          clear c17
          by_cases c18 : (bt a0 x3_1) = 42
          ·rw [if_pos c18] at H
           have c18b0 : ((bt a0 x3_1) == 42) = true := beq_iff_eq.mpr c18
           have c18b1 : ((bt a0 x3_1) != 42) = false := bne_eq_false_iff_eq.mpr c18
           clear c18
           have H' := Aside0.mk H
           clear H
           have p4 : 0 ≤ (x3_1 : Int) := of_decide_eq_true (by first | (with_reducible assumption) | assumption)
           have q4 : x3_1 < (a0.size : Int) := of_decide_eq_true (by first | (with_reducible assumption) | assumption)
           have hx4 := bt_at a0 x3_1
           replace p4 := eq_true p4
           replace q4 := eq_true q4
           go_wp2
           go_roundg k1
           case measure => have := HK1.out; omega
           case rel => exact ⟨(wrap64 (x3_1 + 1)), (by first | rfl | (simp; done) | (simp [*]; done)), H', ⟨by have := HK1.out; omega⟩, by repeat (first | exact Drawn0.refl _ | apply Drawn0.step)⟩
          ·rw [if_neg c18] at H
           have c18b0 : ((bt a0 x3_1) == 42) = false := beq_eq_false_iff_ne.mpr c18
           have c18b1 : ((bt a0 x3_1) != 42) = true := bne_iff_ne.mpr c18
           obtain rfl := Option.some.inj H
           have p4 : 0 ≤ (x3_1 : Int) := of_decide_eq_true (by first | (with_reducible assumption) | assumption)
           have q4 : x3_1 < (a0.size : Int) := of_decide_eq_true (by first | (with_reducible assumption) | assumption)
           have hx4 := bt_at a0 x3_1
           replace p4 := eq_true p4
           replace q4 := eq_true q4
           go_wp2
           go_ret
           exact ⟨by first | rfl | (simp; done) | (simp [*]; done), by repeat (first | exact Drawn0.refl _ | apply Drawn0.step)⟩
         ·rw [if_neg c17] at H
          have c17b0 : decide (57 < (bt a0 x3_1)) = false := decide_eq_false c17
          clear c17
          have H' := Aside0.mk H
          clear H
          have p4 : 0 ≤ (x3_1 : Int) := of_decide_eq_true (by first | (with_reducible assumption) | assumption)
          have q4 : x3_1 < (a0.size : Int) := of_decide_eq_true (by first | (with_reducible assumption) | assumption)
          have hx4 := bt_at a0 x3_1
          replace p4 := eq_true p4
          replace q4 := eq_true q4
          go_wp2
          go_roundg k1
          case measure => have := HK1.out; omega
          case rel => exact ⟨(wrap64 (x3_1 + 1)), (by first | rfl | (simp; done) | (simp [*]; done)), H', ⟨by have := HK1.out; omega⟩, by repeat (first | exact Drawn0.refl _ | apply Drawn0.step)⟩
    ·rw [if_neg c3] at H
     exact absurd H (by simp)
   ·rw [if_neg c2] at H
    have c2b0 : decide (x3_1 < (a0.size : Int)) = false := decide_eq_false c2
    clear c2
    by_cases c19 : a0.toList = ([] : List UInt8)
    ·rw [if_pos c19] at H
     have c19b0 : (a0.toList == ([] : List UInt8)) = true := beq_iff_eq.mpr c19
     have c19b9 : a0.toList.isEmpty = true := by rw [c19]; rfl
     have c19b1 : (a0.toList != ([] : List UInt8)) = false := bne_eq_false_iff_eq.mpr c19
     clear c19
     obtain rfl := Option.some.inj H
     go_wp2
     go_ret
     exact ⟨by first | rfl | (simp; done) | (simp [*]; done), by repeat (first | exact Drawn0.refl _ | apply Drawn0.step)⟩
    ·rw [if_neg c19] at H
     have c19b0 : (a0.toList == ([] : List UInt8)) = false := beq_eq_false_iff_ne.mpr c19
     have c19b9 : a0.toList.isEmpty = false := isEmpty_no_ c19
     have c19b1 : (a0.toList != ([] : List UInt8)) = true := bne_iff_ne.mpr c19
     obtain rfl := Option.some.inj H
     go_wp2
     go_ret
     exact ⟨by first | rfl | (simp; done) | (simp [*]; done), by repeat (first | exact Drawn0.refl _ | apply Drawn0.step)⟩

/-! ### laws_links: function 10 -/
def laws_links.l0 : Nat → List (S28) → Bool → Int → Option (Bool)
 | 0, _, _, _ => none
 | k + 1, x0, x1, x5 => if x5 < (x0.length : Int) then (if 0 ≤ x5 then ((spec_Label.f k ((rd_T28 x0 x5).f0)).bind fun t106 => (if t106 = true then ((spec_Label.f k ((rd_T28 x0 x5).f1)).bind fun t108 => (if t108 = true then (if x1 = true then ((spec_Label.f k ((rd_T28 x0 x5).f2)).bind fun t110 => (if t110 = true then (laws_links.l0 k x0 x1 (wrap64 (x5 + 1))) else (some false))) else (if ((rd_T28 x0 x5).f2).toList = ([] : List UInt8) then (laws_links.l0 k x0 x1 (wrap64 (x5 + 1))) else (some false))) else (some false))) else (some false))) else (none)) else (some true)
def laws_links.f (k : Nat) (l0 : List (S28)) (a1 : Bool) : Option (Bool) := if (l0.length : Int) > 16 then (some false) else (laws_links.l0 k l0 a1 0)
theorem laws_links.mono_l : ∀ k, (∀ y0 y1 y2, LeO (laws_links.l0 k y0 y1 y2) (laws_links.l0 (k + 1) y0 y1 y2))
 | 0 => fun _ _ _ r h => by simp [laws_links.l0] at h
 | k + 1 => by
  have ih0 := laws_links.mono_l k
  ·intro y0 y1 y2
   unfold laws_links.l0
   repeat' first
   | (with_reducible exact ih0 _ _ _)
   | (with_reducible exact spec_Label.mono _ _)
   | (with_reducible exact LeO.refl _)
   | (with_reducible exact LeO.none _)
   | (with_reducible refine LeO.ite ?_ ?_)
   | (with_reducible refine LeO.bind ?_ (fun _ => ?_))
   | exact ih0 _ _ _
   | exact spec_Label.mono _ _
   | exact LeO.none _
   | refine LeO.ite ?_ ?_
   | refine LeO.bind ?_ (fun _ => ?_)
theorem laws_links.mono : ∀ a0 a1 k, LeO (laws_links.f k a0 a1) (laws_links.f (k + 1) a0 a1) := by
 intro a0 a1 k
 have ih0 := laws_links.mono_l k
 unfold laws_links.f
 repeat' first
   | (with_reducible exact ih0 _ _ _)
   | (with_reducible exact spec_Label.mono _ _)
   | (with_reducible exact LeO.refl _)
   | (with_reducible exact LeO.none _)
   | (with_reducible refine LeO.ite ?_ ?_)
   | (with_reducible refine LeO.bind ?_ (fun _ => ?_))
   | exact ih0 _ _ _
   | exact spec_Label.mono _ _
   | exact LeO.none _
   | refine LeO.ite ?_ ?_
   | refine LeO.bind ?_ (fun _ => ?_)
set_option maxHeartbeats 8000000 in
set_option maxRecDepth 100000 in
theorem laws_links.calls (k : Nat) (A0 : Option Addr) (c0 : Nat) (l0 : List (S28)) (a1 : Bool) (r : Bool) (w : World) (hr0 : Kd.C k28 w A0 l0.length l0) (hc0 : l0.length ≤ c0) (h : laws_links.f k l0 a1 = some r) :
  Calls Tryz.prog 10 #[.slice A0 l0.length c0, .bool a1] w fun e w' => e = .returned (.bool r) ∧ Drawn0 w w' := by
 have HR0 := Aside0.mk hr0
 have HC0 := Aside0.mk hc0
 clear hr0 hc0
 have H : (if (l0.length : Int) > 16 then (some false) else (laws_links.l0 k l0 a1 0)) = some r := h
 clear h
 by_cases c3 : (l0.length : Int) > 16
 ·rw [if_pos c3] at H
  have c3b0 : decide (16 < (l0.length : Int)) = true := decide_eq_true c3
  have c3b1 : decide (16 < l0.length) = true := decide_eq_true (by omega)
  clear c3
  obtain rfl := Option.some.inj H
  go_enter Tryz.func10, Tryz.ntmps10
  go_wp2
  go_ret
  exact ⟨by first | rfl | (simp; done) | (simp [*]; done), by repeat (first | exact Drawn0.refl _ | apply Drawn0.step)⟩
 ·rw [if_neg c3] at H
  have c3b0 : decide (16 < (l0.length : Int)) = false := decide_eq_false c3
  have c3b1 : decide (16 < l0.length) = false := decide_eq_false (by omega)
  clear c3
  have H' := Aside0.mk H
  clear H
  go_enter Tryz.func10, Tryz.ntmps10
  go_wp2
  go_loopg [5] k (fun kq v5 w' => ∃ (x5_1 : Int), v5 = .int .i64 x5_1 ∧ Aside0 (laws_links.l0 kq l0 a1 x5_1 = some r) ∧ Aside0 (kq ≤ k) ∧ Drawn0 w w')
  case atStart => exact ⟨(0), (by first | rfl | (simp; done) | (simp [*]; done)), H', ⟨Nat.le_refl _⟩, by repeat (first | exact Drawn0.refl _ | apply Drawn0.step)⟩
  case round =>
   clear H'
   try clear c1
   try clear p2
   try clear c3
   try clear c3b0
   try clear c3b1
   obtain ⟨x5_1, rfl, HA, HK1, ⟨m1, rfl⟩⟩ := hrel
   cases gk with
   | zero => exact absurd HA.out (by simp [laws_links.l0])
   | succ k1 =>
    have H := HA.out
    clear HA
    simp only [laws_links.l0] at H
    by_cases c4 : x5_1 < (l0.length : Int)
    ·rw [if_pos c4] at H
     have c4b0 : decide (x5_1 < (l0.length : Int)) = true := decide_eq_true c4
     clear c4
     by_cases c5 : 0 ≤ x5_1
     ·rw [if_pos c5] at H
      have c5b0 : decide (0 ≤ x5_1) = true := decide_eq_true c5
      clear c5
      replace H := Option.bind_eq_some_iff.mp H
      obtain ⟨t106, A60, H⟩ := H
      replace H : (if t106 = true then ((spec_Label.f k1 ((rd_T28 l0 x5_1).f1)).bind fun t108 => (if t108 = true then (if a1 = true then ((spec_Label.f k1 ((rd_T28 l0 x5_1).f2)).bind fun t110 => (if t110 = true then (laws_links.l0 k1 l0 a1 (wrap64 (x5_1 + 1))) else (some false))) else (if ((rd_T28 l0 x5_1).f2).toList = ([] : List UInt8) then (laws_links.l0 k1 l0 a1 (wrap64 (x5_1 + 1))) else (some false))) else (some false))) else (some false)) = some r := H
      have A6 := Aside0.mk A60
      clear A60
      by_cases c7 : t106 = true
      ·subst c7
       have H1 : ((spec_Label.f k1 ((rd_T28 l0 x5_1).f1)).bind fun t108 => (if t108 = true then (if a1 = true then ((spec_Label.f k1 ((rd_T28 l0 x5_1).f2)).bind fun t110 => (if t110 = true then (laws_links.l0 k1 l0 a1 (wrap64 (x5_1 + 1))) else (some false))) else (if ((rd_T28 l0 x5_1).f2).toList = ([] : List UInt8) then (laws_links.l0 k1 l0 a1 (wrap64 (x5_1 + 1))) else (some false))) else (some false))) = some r := by rw [if_pos rfl] at H; exact H
       clear H
       have H := H1
       clear H1
       replace H := Option.bind_eq_some_iff.mp H
       obtain ⟨t108, A80, H⟩ := H
       replace H : (if t108 = true then (if a1 = true then ((spec_Label.f k1 ((rd_T28 l0 x5_1).f2)).bind fun t110 => (if t110 = true then (laws_links.l0 k1 l0 a1 (wrap64 (x5_1 + 1))) else (some false))) else (if ((rd_T28 l0 x5_1).f2).toList = ([] : List UInt8) then (laws_links.l0 k1 l0 a1 (wrap64 (x5_1 + 1))) else (some false))) else (some false)) = some r := H
       have A8 := Aside0.mk A80
       clear A80
       by_cases c9 : t108 = true
       ·subst c9
        have H1 : (if a1 = true then ((spec_Label.f k1 ((rd_T28 l0 x5_1).f2)).bind fun t110 => (if t110 = true then (laws_links.l0 k1 l0 a1 (wrap64 (x5_1 + 1))) else (some false))) else (if ((rd_T28 l0 x5_1).f2).toList = ([] : List UInt8) then (laws_links.l0 k1 l0 a1 (wrap64 (x5_1 + 1))) else (some false))) = some r := by rw [if_pos rfl] at H; exact H
        clear H
        have H := H1
        clear H1
        by_cases c10 : a1 = true
        ·subst c10
         have H1 : ((spec_Label.f k1 ((rd_T28 l0 x5_1).f2)).bind fun t110 => (if t110 = true then (laws_links.l0 k1 l0 true (wrap64 (x5_1 + 1))) else (some false))) = some r := by rw [if_pos rfl] at H; exact H
         clear H
         have H := H1
         clear H1
         replace H := Option.bind_eq_some_iff.mp H
         obtain ⟨t110, A110, H⟩ := H
         replace H : (if t110 = true then (laws_links.l0 k1 l0 true (wrap64 (x5_1 + 1))) else (some false)) = some r := H
         have A11 := Aside0.mk A110
         clear A110
         by_cases c12 : t110 = true
         ·subst c12
          have H1 : (laws_links.l0 k1 l0 true (wrap64 (x5_1 + 1))) = some r := by rw [if_pos rfl] at H; exact H
          clear H
          have H := H1
          clear H1
          have H' := Aside0.mk H
          clear H
          have p105 : 0 ≤ (x5_1 : Int) := of_decide_eq_true (by first | (with_reducible assumption) | assumption)
          have q105 : x5_1 < (l0.length : Int) := of_decide_eq_true (by first | (with_reducible assumption) | assumption)
          obtain ⟨ad105, e105, hx105_0, hx105_1, hx105_2⟩ := at_T28 HR0.out x5_1 p105 q105
          cases e105
          replace p105 := eq_true p105
          replace q105 := eq_true q105
          go_wp2_with (first | ((with_reducible refine gate_callee (f := 22) rfl ?_); refine goesL_ (some 20) rfl rfl Tryz.func22 (by kernel_rfl) rfl #[.string ((rd_T28 l0 x5_1).f0)] rfl (by (try simp only [List.map_toArray, List.map_cons, List.map_nil]); first | done | rfl | (simp only [List.length_drop, List.length_take]; rfl)) ?_; (with_reducible refine (spec_Label.calls k1 ((rd_T28 l0 x5_1).f0) true _ A6.out).mono ?_); rintro e w' ⟨rfl, ⟨nd, rfl⟩⟩; refine ⟨_, rfl, ?_⟩; have p107 : 0 ≤ (x5_1 : Int) := of_decide_eq_true (by first | (with_reducible assumption) | assumption); have q107 : x5_1 < (l0.length : Int) := of_decide_eq_true (by first | (with_reducible assumption) | assumption); obtain ⟨ad107, e107, hx107_0, hx107_1, hx107_2⟩ := at_T28 HR0.out x5_1 p107 q107; obtain rfl : ad105 = ad107 := (by injection e107); replace p107 := eq_true p107; replace q107 := eq_true q107) | (go_at_call 22; (with_reducible refine (spec_Label.calls k1 ((rd_T28 l0 x5_1).f1) true _ A8.out).mono ?_); rintro e w' ⟨rfl, ⟨nd, rfl⟩⟩; have p109 : 0 ≤ (x5_1 : Int) := of_decide_eq_true (by first | (with_reducible assumption) | assumption); have q109 : x5_1 < (l0.length : Int) := of_decide_eq_true (by first | (with_reducible assumption) | assumption); obtain ⟨ad109, e109, hx109_0, hx109_1, hx109_2⟩ := at_T28 HR0.out x5_1 p109 q109; obtain rfl : ad105 = ad109 := (by injection e109); replace p109 := eq_true p109; replace q109 := eq_true q109) | (go_at_call 22; (with_reducible refine (spec_Label.calls k1 ((rd_T28 l0 x5_1).f2) true _ A11.out).mono ?_); rintro e w' ⟨rfl, ⟨nd, rfl⟩⟩))
          go_roundg k1
          case measure => have := HK1.out; omega
          case rel => exact ⟨(wrap64 (x5_1 + 1)), (by first | rfl | (simp; done) | (simp [*]; done)), H', ⟨by have := HK1.out; omega⟩, by repeat (first | exact Drawn0.refl _ | apply Drawn0.step)⟩
         ·replace c12 := Bool.eq_false_iff.mpr c12
          subst c12
          have H1 : (some false) = some r := by rw [if_neg (show ¬ (false = true) by decide)] at H; exact H
          clear H
          have H := H1
          clear H1
          obtain rfl := Option.some.inj H
          have p105 : 0 ≤ (x5_1 : Int) := of_decide_eq_true (by first | (with_reducible assumption) | assumption)
          have q105 : x5_1 < (l0.length : Int) := of_decide_eq_true (by first | (with_reducible assumption) | assumption)
          obtain ⟨ad105, e105, hx105_0, hx105_1, hx105_2⟩ := at_T28 HR0.out x5_1 p105 q105
          cases e105
          replace p105 := eq_true p105
          replace q105 := eq_true q105
          go_wp2_with (first | ((with_reducible refine gate_callee (f := 22) rfl ?_); refine goesL_ (some 20) rfl rfl Tryz.func22 (by kernel_rfl) rfl #[.string ((rd_T28 l0 x5_1).f0)] rfl (by (try simp only [List.map_toArray, List.map_cons, List.map_nil]); first | done | rfl | (simp only [List.length_drop, List.length_take]; rfl)) ?_; (with_reducible refine (spec_Label.calls k1 ((rd_T28 l0 x5_1).f0) true _ A6.out).mono ?_); rintro e w' ⟨rfl, ⟨nd, rfl⟩⟩; refine ⟨_, rfl, ?_⟩; have p107 : 0 ≤ (x5_1 : Int) := of_decide_eq_true (by first | (with_reducible assumption) | assumption); have q107 : x5_1 < (l0.length : Int) := of_decide_eq_true (by first | (with_reducible assumption) | assumption); obtain ⟨ad107, e107, hx107_0, hx107_1, hx107_2⟩ := at_T28 HR0.out x5_1 p107 q107; obtain rfl : ad105 = ad107 := (by injection e107); replace p107 := eq_true p107; replace q107 := eq_true q107) | (go_at_call 22; (with_reducible refine (spec_Label.calls k1 ((rd_T28 l0 x5_1).f1) true _ A8.out).mono ?_); rintro e w' ⟨rfl, ⟨nd, rfl⟩⟩; have p109 : 0 ≤ (x5_1 : Int) := of_decide_eq_true (by first | (with_reducible assumption) | assumption); have q109 : x5_1 < (l0.length : Int) := of_decide_eq_true (by first | (with_reducible assumption) | assumption); obtain ⟨ad109, e109, hx109_0, hx109_1, hx109_2⟩ := at_T28 HR0.out x5_1 p109 q109; obtain rfl : ad105 = ad109 := (by injection e109); replace p109 := eq_true p109; replace q109 := eq_true q109) | (go_at_call 22; (with_reducible refine (spec_Label.calls k1 ((rd_T28 l0 x5_1).f2) false _ A11.out).mono ?_); rintro e w' ⟨rfl, ⟨nd, rfl⟩⟩))
          go_ret
          exact ⟨by first | rfl | (simp; done) | (simp [*]; done), by repeat (first | exact Drawn0.refl _ | apply Drawn0.step)⟩
        ·replace c10 := Bool.eq_false_iff.mpr c10
         subst c10
         have H1 : (if ((rd_T28 l0 x5_1).f2).toList = ([] : List UInt8) then (laws_links.l0 k1 l0 false (wrap64 (x5_1 + 1))) else (some false)) = some r := by rw [if_neg (show ¬ (false = true) by decide)] at H; exact H
         clear H
         have H := H1
         clear H1
         by_cases c13 : ((rd_T28 l0 x5_1).f2).toList = ([] : List UInt8)
         ·rw [if_pos c13] at H
          have c13b0 : (((rd_T28 l0 x5_1).f2).toList == ([] : List UInt8)) = true := beq_iff_eq.mpr c13
          have c13b9 : ((rd_T28 l0 x5_1).f2).toList.isEmpty = true := by rw [c13]; rfl
          have c13b1 : (((rd_T28 l0 x5_1).f2).toList != ([] : List UInt8)) = false := bne_eq_false_iff_eq.mpr c13
          clear c13
          have H' := Aside0.mk H
          clear H
          have p105 : 0 ≤ (x5_1 : Int) := of_decide_eq_true (by first | (with_reducible assumption) | assumption)
          have q105 : x5_1 < (l0.length : Int) := of_decide_eq_true (by first | (with_reducible assumption) | assumption)
          obtain ⟨ad105, e105, hx105_0, hx105_1, hx105_2⟩ := at_T28 HR0.out x5_1 p105 q105
          cases e105
          replace p105 := eq_true p105
          replace q105 := eq_true q105
          go_wp2_with (first | ((with_reducible refine gate_callee (f := 22) rfl ?_); refine goesL_ (some 20) rfl rfl Tryz.func22 (by kernel_rfl) rfl #[.string ((rd_T28 l0 x5_1).f0)] rfl (by (try simp only [List.map_toArray, List.map_cons, List.map_nil]); first | done | rfl | (simp only [List.length_drop, List.length_take]; rfl)) ?_; (with_reducible refine (spec_Label.calls k1 ((rd_T28 l0 x5_1).f0) true _ A6.out).mono ?_); rintro e w' ⟨rfl, ⟨nd, rfl⟩⟩; refine ⟨_, rfl, ?_⟩; have p107 : 0 ≤ (x5_1 : Int) := of_decide_eq_true (by first | (with_reducible assumption) | assumption); have q107 : x5_1 < (l0.length : Int) := of_decide_eq_true (by first | (with_reducible assumption) | assumption); obtain ⟨ad107, e107, hx107_0, hx107_1, hx107_2⟩ := at_T28 HR0.out x5_1 p107 q107; obtain rfl : ad105 = ad107 := (by injection e107); replace p107 := eq_true p107; replace q107 := eq_true q107) | (go_at_call 22; (with_reducible refine (spec_Label.calls k1 ((rd_T28 l0 x5_1).f1) true _ A8.out).mono ?_); rintro e w' ⟨rfl, ⟨nd, rfl⟩⟩; have p111 : 0 ≤ (x5_1 : Int) := of_decide_eq_true (by first | (with_reducible assumption) | assumption); have q111 : x5_1 < (l0.length : Int) := of_decide_eq_true (by first | (with_reducible assumption) | assumption); obtain ⟨ad111, e111, hx111_0, hx111_1, hx111_2⟩ := at_T28 HR0.out x5_1 p111 q111; obtain rfl : ad105 = ad111 := (by injection e111); replace p111 := eq_true p111; replace q111 := eq_true q111))
          go_roundg k1
          case measure => have := HK1.out; omega
          case rel => exact ⟨(wrap64 (x5_1 + 1)), (by first | rfl | (simp; done) | (simp [*]; done)), H', ⟨by have := HK1.out; omega⟩, by repeat (first | exact Drawn0.refl _ | apply Drawn0.step)⟩
         ·rw [if_neg c13] at H
          have c13b0 : (((rd_T28 l0 x5_1).f2).toList == ([] : List UInt8)) = false := beq_eq_false_iff_ne.mpr c13
          have c13b9 : ((rd_T28 l0 x5_1).f2).toList.isEmpty = false := isEmpty_no_ c13
          have c13b1 : (((rd_T28 l0 x5_1).f2).toList != ([] : List UInt8)) = true := bne_iff_ne.mpr c13
          obtain rfl := Option.some.inj H
          have p105 : 0 ≤ (x5_1 : Int) := of_decide_eq_true (by first | (with_reducible assumption) | assumption)
          have q105 : x5_1 < (l0.length : Int) := of_decide_eq_true (by first | (with_reducible assumption) | assumption)
          obtain ⟨ad105, e105, hx105_0, hx105_1, hx105_2⟩ := at_T28 HR0.out x5_1 p105 q105
          cases e105
          replace p105 := eq_true p105
          replace q105 := eq_true q105
          go_wp2_with (first | ((with_reducible refine gate_callee (f := 22) rfl ?_); refine goesL_ (some 20) rfl rfl Tryz.func22 (by kernel_rfl) rfl #[.string ((rd_T28 l0 x5_1).f0)] rfl (by (try simp only [List.map_toArray, List.map_cons, List.map_nil]); first | done | rfl | (simp only [List.length_drop, List.length_take]; rfl)) ?_; (with_reducible refine (spec_Label.calls k1 ((rd_T28 l0 x5_1).f0) true _ A6.out).mono ?_); rintro e w' ⟨rfl, ⟨nd, rfl⟩⟩; refine ⟨_, rfl, ?_⟩; have p107 : 0 ≤ (x5_1 : Int) := of_decide_eq_true (by first | (with_reducible assumption) | assumption); have q107 : x5_1 < (l0.length : Int) := of_decide_eq_true (by first | (with_reducible assumption) | assumption); obtain ⟨ad107, e107, hx107_0, hx107_1, hx107_2⟩ := at_T28 HR0.out x5_1 p107 q107; obtain rfl : ad105 = ad107 := (by injection e107); replace p107 := eq_true p107; replace q107 := eq_true q107) | (go_at_call 22; (with_reducible refine (spec_Label.calls k1 ((rd_T28 l0 x5_1).f1) true _ A8.out).mono ?_); rintro e w' ⟨rfl, ⟨nd, rfl⟩⟩; have p111 : 0 ≤ (x5_1 : Int) := of_decide_eq_true (by first | (with_reducible assumption) | assumption); have q111 : x5_1 < (l0.length : Int) := of_decide_eq_true (by first | (with_reducible assumption) | assumption); obtain ⟨ad111, e111, hx111_0, hx111_1, hx111_2⟩ := at_T28 HR0.out x5_1 p111 q111; obtain rfl : ad105 = ad111 := (by injection e111); replace p111 := eq_true p111; replace q111 := eq_true q111))
          go_ret
          exact ⟨by first | rfl | (simp; done) | (simp [*]; done), by repeat (first | exact Drawn0.refl _ | apply Drawn0.step)⟩
       ·replace c9 := Bool.eq_false_iff.mpr c9
        subst c9
        have H1 : (some false) = some r := by rw [if_neg (show ¬ (false = true) by decide)] at H; exact H
        clear H
        have H := H1
        clear H1
        obtain rfl := Option.some.inj H
        have p105 : 0 ≤ (x5_1 : Int) := of_decide_eq_true (by first | (with_reducible assumption) | assumption)
        have q105 : x5_1 < (l0.length : Int) := of_decide_eq_true (by first | (with_reducible assumption) | assumption)
        obtain ⟨ad105, e105, hx105_0, hx105_1, hx105_2⟩ := at_T28 HR0.out x5_1 p105 q105
        cases e105
        replace p105 := eq_true p105
        replace q105 := eq_true q105
        go_wp2_with (first | ((with_reducible refine gate_callee (f := 22) rfl ?_); refine goesL_ (some 20) rfl rfl Tryz.func22 (by kernel_rfl) rfl #[.string ((rd_T28 l0 x5_1).f0)] rfl (by (try simp only [List.map_toArray, List.map_cons, List.map_nil]); first | done | rfl | (simp only [List.length_drop, List.length_take]; rfl)) ?_; (with_reducible refine (spec_Label.calls k1 ((rd_T28 l0 x5_1).f0) true _ A6.out).mono ?_); rintro e w' ⟨rfl, ⟨nd, rfl⟩⟩; refine ⟨_, rfl, ?_⟩; have p107 : 0 ≤ (x5_1 : Int) := of_decide_eq_true (by first | (with_reducible assumption) | assumption); have q107 : x5_1 < (l0.length : Int) := of_decide_eq_true (by first | (with_reducible assumption) | assumption); obtain ⟨ad107, e107, hx107_0, hx107_1, hx107_2⟩ := at_T28 HR0.out x5_1 p107 q107; obtain rfl : ad105 = ad107 := (by injection e107); replace p107 := eq_true p107; replace q107 := eq_true q107) | (go_at_call 22; (with_reducible refine (spec_Label.calls k1 ((rd_T28 l0 x5_1).f1) false _ A8.out).mono ?_); rintro e w' ⟨rfl, ⟨nd, rfl⟩⟩))
        go_ret
        exact ⟨by first | rfl | (simp; done) | (simp [*]; done), by repeat (first | exact Drawn0.refl _ | apply Drawn0.step)⟩
      ·replace c7 := Bool.eq_false_iff.mpr c7
       subst c7
       have H1 : (some false) = some r := by rw [if_neg (show ¬ (false = true) by decide)] at H; exact H
       clear H
       have H := H1
       clear H1
       obtain rfl := Option.some.inj H
       have p105 : 0 ≤ (x5_1 : Int) := of_decide_eq_true (by first | (with_reducible assumption) | assumption)
       have q105 : x5_1 < (l0.length : Int) := of_decide_eq_true (by first | (with_reducible assumption) | assumption)
       obtain ⟨ad105, e105, hx105_0, hx105_1, hx105_2⟩ := at_T28 HR0.out x5_1 p105 q105
       cases e105
       replace p105 := eq_true p105
       replace q105 := eq_true q105
       go_wp2_with (first | ((with_reducible refine gate_callee (f := 22) rfl ?_); refine goesL_ (some 20) rfl rfl Tryz.func22 (by kernel_rfl) rfl #[.string ((rd_T28 l0 x5_1).f0)] rfl (by (try simp only [List.map_toArray, List.map_cons, List.map_nil]); first | done | rfl | (simp only [List.length_drop, List.length_take]; rfl)) ?_; (with_reducible refine (spec_Label.calls k1 ((rd_T28 l0 x5_1).f0) false _ A6.out).mono ?_); rintro e w' ⟨rfl, ⟨nd, rfl⟩⟩; refine ⟨_, rfl, ?_⟩))
       go_ret
       exact ⟨by first | rfl | (simp; done) | (simp [*]; done), by repeat (first | exact Drawn0.refl _ | apply Drawn0.step)⟩
     ·rw [if_neg c5] at H
      exact absurd H (by simp)
    ·rw [if_neg c4] at H
     have c4b0 : decide (x5_1 < (l0.length : Int)) = false := decide_eq_false c4
     clear c4
     obtain rfl := Option.some.inj H
     go_wp2
     go_ret
     exact ⟨by first | rfl | (simp; done) | (simp [*]; done), by repeat (first | exact Drawn0.refl _ | apply Drawn0.step)⟩

/-! ### laws_named: function 11 -/
def laws_named.f (k : Nat) (a0 : ByteArray) (a1 : ByteArray) (a2 : ByteArray) (a3 : Bool) : Option (Bool) := (spec_Label.f k a0).bind fun t112 => (if t112 = true then ((spec_Label.f k a1).bind fun t113 => (if t113 = true then (if a3 = true then ((spec_Label.f k a2).bind fun t114 => (if t114 = true then (some true) else (some false))) else (some (a2.toList == ([] : List UInt8)))) else (some false))) else (some false))
theorem laws_named.mono : ∀ a0 a1 a2 a3 k, LeO (laws_named.f k a0 a1 a2 a3) (laws_named.f (k + 1) a0 a1 a2 a3) := by
 intro a0 a1 a2 a3 k
 unfold laws_named.f
 repeat' first
   | (with_reducible exact spec_Label.mono _ _)
   | (with_reducible exact LeO.refl _)
   | (with_reducible exact LeO.none _)
   | (with_reducible refine LeO.ite ?_ ?_)
   | (with_reducible refine LeO.bind ?_ (fun _ => ?_))
   | exact spec_Label.mono _ _
   | exact LeO.none _
   | refine LeO.ite ?_ ?_
   | refine LeO.bind ?_ (fun _ => ?_)
set_option maxHeartbeats 8000000 in
set_option maxRecDepth 100000 in
theorem laws_named.calls (k : Nat) (a0 : ByteArray) (a1 : ByteArray) (a2 : ByteArray) (a3 : Bool) (r : Bool) (w : World) (h : laws_named.f k a0 a1 a2 a3 = some r) :
  Calls Tryz.prog 11 #[.string a0, .string a1, .string a2, .bool a3] w fun e w' => e = .returned (.bool r) ∧ Drawn0 w w' := by
 have H : ((spec_Label.f k a0).bind fun t112 => (if t112 = true then ((spec_Label.f k a1).bind fun t113 => (if t113 = true then (if a3 = true then ((spec_Label.f k a2).bind fun t114 => (if t114 = true then (some true) else (some false))) else (some (a2.toList == ([] : List UInt8)))) else (some false))) else (some false))) = some r := h
 clear h
 replace H := Option.bind_eq_some_iff.mp H
 obtain ⟨t112, A50, H⟩ := H
 replace H : (if t112 = true then ((spec_Label.f k a1).bind fun t113 => (if t113 = true then (if a3 = true then ((spec_Label.f k a2).bind fun t114 => (if t114 = true then (some true) else (some false))) else (some (a2.toList == ([] : List UInt8)))) else (some false))) else (some false)) = some r := H
 have A5 := Aside0.mk A50
 clear A50
 by_cases c6 : t112 = true
 ·subst c6
  have H1 : ((spec_Label.f k a1).bind fun t113 => (if t113 = true then (if a3 = true then ((spec_Label.f k a2).bind fun t114 => (if t114 = true then (some true) else (some false))) else (some (a2.toList == ([] : List UInt8)))) else (some false))) = some r := by rw [if_pos rfl] at H; exact H
  clear H
  have H := H1
  clear H1
  replace H := Option.bind_eq_some_iff.mp H
  obtain ⟨t113, A70, H⟩ := H
  replace H : (if t113 = true then (if a3 = true then ((spec_Label.f k a2).bind fun t114 => (if t114 = true then (some true) else (some false))) else (some (a2.toList == ([] : List UInt8)))) else (some false)) = some r := H
  have A7 := Aside0.mk A70
  clear A70
  by_cases c8 : t113 = true
  ·subst c8
   have H1 : (if a3 = true then ((spec_Label.f k a2).bind fun t114 => (if t114 = true then (some true) else (some false))) else (some (a2.toList == ([] : List UInt8)))) = some r := by rw [if_pos rfl] at H; exact H
   clear H
   have H := H1
   clear H1
   by_cases c9 : a3 = true
   ·subst c9
    have H1 : ((spec_Label.f k a2).bind fun t114 => (if t114 = true then (some true) else (some false))) = some r := by rw [if_pos rfl] at H; exact H
    clear H
    have H := H1
    clear H1
    replace H := Option.bind_eq_some_iff.mp H
    obtain ⟨t114, A100, H⟩ := H
    replace H : (if t114 = true then (some true) else (some false)) = some r := H
    have A10 := Aside0.mk A100
    clear A100
    by_cases c11 : t114 = true
    ·subst c11
     have H1 : (some true) = some r := by rw [if_pos rfl] at H; exact H
     clear H
     have H := H1
     clear H1
     obtain rfl := Option.some.inj H
     go_enter Tryz.func11, Tryz.ntmps11
     go_wp2_with (first | ((with_reducible refine gate_callee (f := 22) rfl ?_); refine goesL_ (some 10) rfl rfl Tryz.func22 (by kernel_rfl) rfl #[.string a0] rfl (by (try simp only [List.map_toArray, List.map_cons, List.map_nil]); first | done | rfl | (simp only [List.length_drop, List.length_take]; rfl)) ?_; (with_reducible refine (spec_Label.calls k a0 true _ A5.out).mono ?_); rintro e w' ⟨rfl, ⟨nd, rfl⟩⟩; refine ⟨_, rfl, ?_⟩) | (go_at_call 22; (with_reducible refine (spec_Label.calls k a1 true _ A7.out).mono ?_); rintro e w' ⟨rfl, ⟨nd, rfl⟩⟩) | (go_at_call 22; (with_reducible refine (spec_Label.calls k a2 true _ A10.out).mono ?_); rintro e w' ⟨rfl, ⟨nd, rfl⟩⟩))
     go_ret
     exact ⟨by first | rfl | (simp; done) | (simp [*]; done), by repeat (first | exact Drawn0.refl _ | apply Drawn0.step)⟩
    ·replace c11 := Bool.eq_false_iff.mpr c11
     subst c11
     have H1 : (some false) = some r := by rw [if_neg (show ¬ (false = true) by decide)] at H; exact H
     clear H
     have H := H1
     clear H1
     obtain rfl := Option.some.inj H
     go_enter Tryz.func11, Tryz.ntmps11
     go_wp2_with (first | ((with_reducible refine gate_callee (f := 22) rfl ?_); refine goesL_ (some 10) rfl rfl Tryz.func22 (by kernel_rfl) rfl #[.string a0] rfl (by (try simp only [List.map_toArray, List.map_cons, List.map_nil]); first | done | rfl | (simp only [List.length_drop, List.length_take]; rfl)) ?_; (with_reducible refine (spec_Label.calls k a0 true _ A5.out).mono ?_); rintro e w' ⟨rfl, ⟨nd, rfl⟩⟩; refine ⟨_, rfl, ?_⟩) | (go_at_call 22; (with_reducible refine (spec_Label.calls k a1 true _ A7.out).mono ?_); rintro e w' ⟨rfl, ⟨nd, rfl⟩⟩) | (go_at_call 22; (with_reducible refine (spec_Label.calls k a2 false _ A10.out).mono ?_); rintro e w' ⟨rfl, ⟨nd, rfl⟩⟩))
     go_ret
     exact ⟨by first | rfl | (simp; done) | (simp [*]; done), by repeat (first | exact Drawn0.refl _ | apply Drawn0.step)⟩
   ·replace c9 := Bool.eq_false_iff.mpr c9
    subst c9
    have H1 : (some (a2.toList == ([] : List UInt8))) = some r := by rw [if_neg (show ¬ (false = true) by decide)] at H; exact H
    clear H
    have H := H1
    clear H1
    obtain rfl := Option.some.inj H
    go_enter Tryz.func11, Tryz.ntmps11
    go_wp2_with (first | ((with_reducible refine gate_callee (f := 22) rfl ?_); refine goesL_ (some 10) rfl rfl Tryz.func22 (by kernel_rfl) rfl #[.string a0] rfl (by (try simp only [List.map_toArray, List.map_cons, List.map_nil]); first | done | rfl | (simp only [List.length_drop, List.length_take]; rfl)) ?_; (with_reducible refine (spec_Label.calls k a0 true _ A5.out).mono ?_); rintro e w' ⟨rfl, ⟨nd, rfl⟩⟩; refine ⟨_, rfl, ?_⟩) | (go_at_call 22; (with_reducible refine (spec_Label.calls k a1 true _ A7.out).mono ?_); rintro e w' ⟨rfl, ⟨nd, rfl⟩⟩))
    go_ret
    exact ⟨by first | rfl | (simp; done) | (simp [*]; done), by repeat (first | exact Drawn0.refl _ | apply Drawn0.step)⟩
  ·replace c8 := Bool.eq_false_iff.mpr c8
   subst c8
   have H1 : (some false) = some r := by rw [if_neg (show ¬ (false = true) by decide)] at H; exact H
   clear H
   have H := H1
   clear H1
   obtain rfl := Option.some.inj H
   go_enter Tryz.func11, Tryz.ntmps11
   go_wp2_with (first | ((with_reducible refine gate_callee (f := 22) rfl ?_); refine goesL_ (some 10) rfl rfl Tryz.func22 (by kernel_rfl) rfl #[.string a0] rfl (by (try simp only [List.map_toArray, List.map_cons, List.map_nil]); first | done | rfl | (simp only [List.length_drop, List.length_take]; rfl)) ?_; (with_reducible refine (spec_Label.calls k a0 true _ A5.out).mono ?_); rintro e w' ⟨rfl, ⟨nd, rfl⟩⟩; refine ⟨_, rfl, ?_⟩) | (go_at_call 22; (with_reducible refine (spec_Label.calls k a1 false _ A7.out).mono ?_); rintro e w' ⟨rfl, ⟨nd, rfl⟩⟩))
   go_ret
   exact ⟨by first | rfl | (simp; done) | (simp [*]; done), by repeat (first | exact Drawn0.refl _ | apply Drawn0.step)⟩
 ·replace c6 := Bool.eq_false_iff.mpr c6
  subst c6
  have H1 : (some false) = some r := by rw [if_neg (show ¬ (false = true) by decide)] at H; exact H
  clear H
  have H := H1
  clear H1
  obtain rfl := Option.some.inj H
  go_enter Tryz.func11, Tryz.ntmps11
  go_wp2_with (first | ((with_reducible refine gate_callee (f := 22) rfl ?_); refine goesL_ (some 10) rfl rfl Tryz.func22 (by kernel_rfl) rfl #[.string a0] rfl (by (try simp only [List.map_toArray, List.map_cons, List.map_nil]); first | done | rfl | (simp only [List.length_drop, List.length_take]; rfl)) ?_; (with_reducible refine (spec_Label.calls k a0 false _ A5.out).mono ?_); rintro e w' ⟨rfl, ⟨nd, rfl⟩⟩; refine ⟨_, rfl, ?_⟩))
  go_ret
  exact ⟨by first | rfl | (simp; done) | (simp [*]; done), by repeat (first | exact Drawn0.refl _ | apply Drawn0.step)⟩

end Go.Proofs.YtjijaciaioieaaaGreat.PFnRolesOrder
